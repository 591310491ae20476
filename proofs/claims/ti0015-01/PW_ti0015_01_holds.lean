import PyProof.Rows.All
import Wide.All
import OpenK.AllK
import Wide.FinOn
import PySem.Challenge.RW_ti0015_01

open PySem PySem.W PySem.Calls PyProof.Rows
set_option Elab.async false
set_option maxRecDepth 100000
set_option maxHeartbeats 8000000
namespace Mine
theorem same_find : @PySem.Manifest.find? = @PySem.Manifest.find? := rfl
end Mine
name_quick tw861502493610598483 for PySem.Manifest.find? by Mine.same_find
name_quick tw7774113678449685934 for PySem.Manifest.find? by Mine.same_find
name_quick tw3882566061149608636 for PySem.Manifest.find? by Mine.same_find
name_quick tw18059354320758474759 for PySem.Manifest.find? by Mine.same_find
name_quick tw18437792190763421558 for PySem.Manifest.find? by Mine.same_find
name_quick tw3919386906821981792 for PySem.Manifest.find? by Mine.same_find
name_quick tw8159993647027272844 for PySem.Manifest.find? by Mine.same_find
name_quick tw11589342450005873132 for PySem.Manifest.find? by Mine.same_find
name_quick tw18237906538492839801 for PySem.Manifest.find? by Mine.same_find
name_quick tw14187406211511212617 for PySem.Manifest.find? by Mine.same_find
name_quick tw13769103115541136327 for PySem.Manifest.find? by Mine.same_find
name_quick tw13812277999558781770 for PySem.Manifest.find? by Mine.same_find
name_quick tw12903330217458380548 for PySem.Manifest.find? by Mine.same_find
name_quick tw8997383693586321770 for PySem.Manifest.find? by Mine.same_find
name_quick tw15779231459743154856 for PySem.Manifest.find? by Mine.same_find
name_quick tw16229202489276428455 for PySem.Manifest.find? by Mine.same_find
name_quick tw4635989785427082552 for PySem.Manifest.find? by Mine.same_find
name_quick tw10295913840692754127 for PySem.Manifest.find? by Mine.same_find
name_quick tw14383122354028845282 for PySem.Manifest.find? by Mine.same_find
name_quick tw13135312941875745310 for PySem.Manifest.find? by Mine.same_find
name_quick tw9456574344343218679 for PySem.Manifest.find? by Mine.same_find
name_quick tw14935467056822913822 for PySem.Manifest.find? by Mine.same_find
name_quick tw17494894328491470735 for PySem.Manifest.find? by Mine.same_find
name_quick tw6469784823511061222 for PySem.Manifest.find? by Mine.same_find
name_quick tw9536688357841153863 for PySem.Manifest.find? by Mine.same_find
name_quick tw2875624504187281209 for PySem.Manifest.find? by Mine.same_find
name_quick tw730961619353400375 for PySem.Manifest.find? by Mine.same_find
name_quick tw4547051000311932777 for PySem.Manifest.find? by Mine.same_find
name_quick tw16279288168775177219 for PySem.Manifest.find? by Mine.same_find
name_quick tw17760279517084355780 for PySem.Manifest.find? by Mine.same_find
name_quick tw209982475168477708 for PySem.Manifest.find? by Mine.same_find
name_quick tw5702276774652866934 for PySem.Manifest.find? by Mine.same_find
name_quick tw8739830900816887780 for PySem.Manifest.find? by Mine.same_find
name_quick tw2187251505897268136 for PySem.Manifest.find? by Mine.same_find
name_quick tw3235425350174046738 for PySem.Manifest.find? by Mine.same_find
name_quick tw11161164713144168021 for PySem.Manifest.find? by Mine.same_find
name_quick tw16140922888777852060 for PySem.Manifest.find? by Mine.same_find
name_quick tw3300454383303005205 for PySem.Manifest.find? by Mine.same_find
name_quick tw4562827626845409882 for PySem.Manifest.find? by Mine.same_find
name_quick tw15127105006835628225 for PySem.Manifest.find? by Mine.same_find
name_quick tw11766667032028208565 for PySem.Manifest.find? by Mine.same_find
name_quick tw6128106870883400570 for PySem.Manifest.find? by Mine.same_find
name_quick tw87601786513091389 for PySem.Manifest.find? by Mine.same_find
name_quick tw2789304352393801511 for PySem.Manifest.find? by Mine.same_find
name_quick tw17013487888433625170 for PySem.Manifest.find? by Mine.same_find
name_quick tw16723463757517087524 for PySem.Manifest.find? by Mine.same_find
name_quick tw6229817132586351632 for PySem.Manifest.find? by Mine.same_find
name_quick tw4953865588907285216 for PySem.Manifest.find? by Mine.same_find
name_quick tw8899516883271353254 for PySem.Manifest.find? by Mine.same_find
name_quick tw14243238205550065757 for PySem.Manifest.find? by Mine.same_find
name_quick tw7476452910721959123 for PySem.Manifest.find? by Mine.same_find
name_quick tw8285278889055680438 for PySem.Manifest.find? by Mine.same_find
name_quick tw2950685276103557050 for PySem.Manifest.find? by Mine.same_find
name_quick tw5217270863462422736 for PySem.Manifest.find? by Mine.same_find
name_quick tw4884199854448574 for PySem.Manifest.find? by Mine.same_find
name_quick tw3985964047577975286 for PySem.Manifest.find? by Mine.same_find
open_top hd for PySem.Challenge.rw_ti0015_01
namespace Mine
-- base
abbrev prog : Program := Challenge.rw_ti0015_01.row.prog
/-- all of h stands in h' -/
def Keep (h h' : Heap) : Prop := ∀ b o, h.get? b = some o → h'.get? b = some o
theorem Keep.trans {h h' h'' : Heap} (k : Keep h h') (k' : Keep h' h'') : Keep h h'' := fun b o e => k' b o (k b o e)
theorem Keep.refl {h : Heap} : Keep h h := fun _ _ e => e
abbrev Ar (d : Nat) (fr : Option (List Env)) (gs : Option (List Code)) (u : Nat) : Around := { handled := none, depth := d, frames := fr, guards := gs, units := u }
structure Std (w : World) (p : Program) (loose : List Str) (mg mb : Str → Option Value) (h : Heap) : Prop where
  X : (hd.heap_39 w.params).In h
  T : TopRead p loose mg mb h
theorem Std.keep {w p loose mg mb} {h h' : Heap} (S : Std w p loose mg mb h) (k : Keep h h') : Std w p loose mg mb h' :=
  ⟨fun a o e => k a o (S.X a o e), S.T.keeps k⟩
theorem lt2 : ∀ {i : Nat}, i < 2 → i = 0 ∨ i = 1
  | 0, _ => .inl rfl
  | 1, _ => .inr rfl
theorem lt3 : ∀ {i : Nat}, i < 3 → i = 0 ∨ i = 1 ∨ i = 2
  | 0, _ => .inl rfl
  | 1, _ => .inr (.inl rfl)
  | 2, _ => .inr (.inr rfl)
theorem lt4 : ∀ {i : Nat}, i < 4 → i = 0 ∨ i = 1 ∨ i = 2 ∨ i = 3
  | 0, _ => .inl rfl
  | 1, _ => .inr (.inl rfl)
  | 2, _ => .inr (.inr (.inl rfl))
  | 3, _ => .inr (.inr (.inr rfl))
theorem lt5 : ∀ {i : Nat}, i < 5 → i = 0 ∨ i = 1 ∨ i = 2 ∨ i = 3 ∨ i = 4
  | 0, _ => .inl rfl
  | 1, _ => .inr (.inl rfl)
  | 2, _ => .inr (.inr (.inl rfl))
  | 3, _ => .inr (.inr (.inr (.inl rfl)))
  | 4, _ => .inr (.inr (.inr (.inr rfl)))
theorem lt8 : ∀ {i : Nat}, i < 8 → i = 0 ∨ i = 1 ∨ i = 2 ∨ i = 3 ∨ i = 4 ∨ i = 5 ∨ i = 6 ∨ i = 7
  | 0, _ => .inl rfl
  | 1, _ => .inr (.inl rfl)
  | 2, _ => .inr (.inr (.inl rfl))
  | 3, _ => .inr (.inr (.inr (.inl rfl)))
  | 4, _ => .inr (.inr (.inr (.inr (.inl rfl))))
  | 5, _ => .inr (.inr (.inr (.inr (.inr (.inl rfl)))))
  | 6, _ => .inr (.inr (.inr (.inr (.inr (.inr (.inl rfl))))))
  | 7, _ => .inr (.inr (.inr (.inr (.inr (.inr (.inr rfl))))))
theorem lt4i {i : Nat} (h : i < 4) : (0 + (i : Int) * 1 = 0 ∨ 0 + (i : Int) * 1 = 1 ∨ 0 + (i : Int) * 1 = 2 ∨ 0 + (i : Int) * 1 = 3) := by
  rcases lt4 h with rfl | rfl | rfl | rfl <;> decide
def posB (params : Arguments) (args : List Value) : List (Str × Value) := (params.args.map (·.arg)).zip args
def bmap : List (Str × Value) → Str → Option Value
  | [], _ => none
  | (x, v) :: r, y => if y = x then some v else bmap r y
theorem bmap_lookup : ∀ (l : List (Str × Value)) (y : Str), l.lookup y = bmap l y
  | [], _ => rfl
  | (x, v) :: r, y => by
    rw [List.lookup_cons, bmap]
    by_cases h : y = x
    · subst h; simp
    · have : (y == x) = false := by simpa using h
      rw [this, if_neg h]; exact bmap_lookup r y
section
variable {w : World} {A : Around} {E : Value → Shared → Prop} {s : Shared} {p : Program} {loose : List Str} {mg mb : Str → Option Value}
theorem enter {Q : Value → Shared → Prop} {name qual : Str} {params : Arguments} {body : List Stmt} {scope : Scope} {dV kV doc pm cdv ct oc : Value} {an od : Option Addr} {osl : Array (Option Value)} {f : Addr} {args : List Value}
    (S : Std w p loose mg mb s.heap) (hroom : A.depth < recursionLimit)
    (ho : (hd.heap_39 w.params).lookup f = some ⟨oc, od, .func (fnOf name qual params body scope dV kV doc pm an cdv ct), osl⟩) (hcd : codeIn (hd.heap_39 w.params) cdv qual = true)
    (hbind : bindArgs (fnOf name qual params body scope dV kV doc pm an cdv ct) ⟨args, []⟩ = pure (posB params args)) (hloc : ∀ y ∈ posB params args, scope.names.lookup y.1 = some .local)
    (h : ∀ h₁, Fr s.heap s.heap.objs.size h₁ (bmap (posB params args).reverse) → News s.heap s.heap.objs.size h₁ [] → (hd.heap_39 w.params).In s.heap → TopRead p loose mg mb s.heap →
      wpAny (model prog w) (A.deeper (envOf qual scope s.heap.objs.size f cdv)) (execs body (envOf qual scope s.heap.objs.size f cdv))
        (fun fl s' => Q (match fl with | .ret v => v | _ => .none) s') (fun _ _ => False) { s with heap := h₁, toks := s.toks + (posB params args).length })
    (hco : scope.isCoroutine = false) (hgen : scope.isGenerator = false) (hk : scope.kind = .function) (hcell : ∀ x ∈ scope.names, x.2 ≠ .cell) :
    wpAny (model prog w) A (call (.ref f) args []) Q E s := by
  refine wpAny_call ?_
  refine codeAny_call_def (fd := fnOf name qual params body scope dV kV doc pm an cdv ct) (body := body) (binds := posB params args) hroom (S.X _ _ ho) rfl S.T.nolimit (codeRec_of S.X hcd) rfl (BindsTo.of_eq hbind) hcell hloc (fun h₁ hns hk₁ => ?_) hco hgen hk
  have e : (fun x => (posB params args).reverse.lookup x) = bmap (posB params args).reverse := funext fun y => bmap_lookup _ y
  rw [e] at hns
  exact wpAny_mono (h h₁ ⟨hns, hk₁, Nat.le_refl _⟩ News.nil S.X S.T) (fun _ _ x => x) (fun _ _ x => x.elim)
end
local macro_rules | `(tactic| walk_at "my enter") => `(tactic| (refine' enter (by assumption) (by first | assumption | omega) ?k1 ?k2 ?k3 ?k4 ?_ ?c1 ?c2 ?c3 ?c4; (case k1 => k_is); (case k2 => k_is); (case k3 => exact rfl); (case k4 => exact locs rfl); (case c1 => rfl); (case c2 => rfl); (case c3 => rfl); (case c4 => decide); intro h₁ F N X T; (dsimp only [posB, bmap, List.map, List.zip, List.zipWith, List.reverse, List.reverseAux, List.length] at F; dsimp only [posB, List.map, List.zip, List.zipWith, List.length])))
-- one step of the walk, but no loop and no call of the text's own
local macro_rules | `(tactic| walk_at "my step") => `(tactic| ((fail_if_success (with_reducible show wpAny _ _ (exec (Stmt.For _ _ _ _ _) _) _ _ _)); (fail_if_success (with_reducible show wpAny _ _ (exec (Stmt.While _ _ _ _) _) _ _ _)); (fail_if_success (with_reducible show wpAny _ _ (PySem.call (Value.ref _) _ _) _ _ _)); walk1))
local macro_rules | `(tactic| walk_at "my own") => `(tactic| (intro p hp; first | exact hp | exact List.mem_append_right _ hp | (simp only [List.mem_cons, List.mem_append, hp, or_true, true_or]; done) | (simp [hp]; done)))
-- the same, and no comprehension
local macro_rules | `(tactic| walk_at "my stepL") => `(tactic| ((fail_if_success (with_reducible show wpAny _ _ (eval (Expr.ListComp _ _ _ _) _) _ _ _)); (fail_if_success (with_reducible show wpAny _ _ (eval (Expr.Call (Expr.Attribute _ _ _) [Expr.ListComp _ _ _ _] _ _) _) _ _ _)); walk_at "my step"))
theorem keepFrag : (fun (_ : OpenLaw) (_ : Params → Frag) => True) Challenge.rw_ti0015_01 hd.heap_39 := by k_fill; w_top off; trivial
-- small
/-- the table of the signs -/
def EX : List (Str × Int) := [(⟨#[33]⟩, 54), (⟨#[33, 61]⟩, 28), (⟨#[37]⟩, 24), (⟨#[37, 61]⟩, 40), (⟨#[38]⟩, 19), (⟨#[38, 61]⟩, 41), (⟨#[40]⟩, 7), (⟨#[41]⟩, 8), (⟨#[42]⟩, 16), (⟨#[42, 42]⟩, 35), (⟨#[42, 42, 61]⟩, 46), (⟨#[42, 61]⟩, 38), (⟨#[43]⟩, 14), (⟨#[43, 61]⟩, 36), (⟨#[44]⟩, 12), (⟨#[45]⟩, 15), (⟨#[45, 61]⟩, 37), (⟨#[45, 62]⟩, 51), (⟨#[46]⟩, 23), (⟨#[46, 46, 46]⟩, 52), (⟨#[47]⟩, 17), (⟨#[47, 47]⟩, 47), (⟨#[47, 47, 61]⟩, 48), (⟨#[47, 61]⟩, 39), (⟨#[58]⟩, 11), (⟨#[58, 61]⟩, 53), (⟨#[59]⟩, 13), (⟨#[60]⟩, 20), (⟨#[60, 60]⟩, 33), (⟨#[60, 60, 61]⟩, 44), (⟨#[60, 61]⟩, 29), (⟨#[61]⟩, 22), (⟨#[61, 61]⟩, 27), (⟨#[62]⟩, 21), (⟨#[62, 61]⟩, 30), (⟨#[62, 62]⟩, 34), (⟨#[62, 62, 61]⟩, 45), (⟨#[64]⟩, 49), (⟨#[64, 61]⟩, 50), (⟨#[91]⟩, 9), (⟨#[93]⟩, 10), (⟨#[94]⟩, 32), (⟨#[94, 61]⟩, 43), (⟨#[123]⟩, 25), (⟨#[124]⟩, 18), (⟨#[124, 61]⟩, 42), (⟨#[125]⟩, 26), (⟨#[126]⟩, 31)]
section
variable {w : World} {d u : Nat} {fr : Option (List Env)} {gs : Option (List Code)} {E : Value → Shared → Prop} {s : Shared} {p : Program} {loose : List Str} {mg mb : Str → Option Value} {Q : Value → Shared → Prop}
theorem add_int_ok {a b : Int} {ta tb : Tok} (S : Std w p loose mg mb s.heap) (hroom : d < recursionLimit)
    (k : ∀ h' t tk, Keep s.heap h' → Q (.int (a + b) t) { s with heap := h', toks := tk }) :
    wpAny (model prog w) (Ar d fr gs u) (call (.ref 21) [.int a ta, .int b tb] []) Q E s := by
  walk_at "my enter"
  repeat' walk1
  exact k _ _ _ (Fr.keep (by assumption))
theorem add_str_ok {a b : Str} {ta tb : Tok} (S : Std w p loose mg mb s.heap) (hroom : d < recursionLimit) (hsz : a.length + b.length ≤ sizeLine)
    (k : ∀ h' t tk, Keep s.heap h' → Q (.str (a ++ b) t) { s with heap := h', toks := tk }) :
    wpAny (model prog w) (Ar d fr gs u) (call (.ref 21) [.str a ta, .str b tb] []) Q E s := by
  walk_at "my enter"
  repeat' walk1
  exact k _ _ _ (Fr.keep (by assumption))
theorem mul_str_ok {a : Str} {b : Int} {ta tb : Tok} (S : Std w p loose mg mb s.heap) (hroom : d < recursionLimit) (hok : MulOk a b)
    (k : ∀ h' t tk, Keep s.heap h' → Q (.str (Txt.mul a b) t) { s with heap := h', toks := tk }) :
    wpAny (model prog w) (Ar d fr gs u) (call (.ref 28) [.str a ta, .int b tb] []) Q E s := by
  walk_at "my enter"
  repeat' walk1
  exact k _ _ _ (Fr.keep (by assumption))
theorem sub_int_ok {a b : Int} {ta tb : Tok} (S : Std w p loose mg mb s.heap) (hroom : d < recursionLimit)
    (k : ∀ h' t tk, Keep s.heap h' → Q (.int (a - b) t) { s with heap := h', toks := tk }) :
    wpAny (model prog w) (Ar d fr gs u) (call (.ref 35) [.int a ta, .int b tb] []) Q E s := by
  walk_at "my enter"
  repeat' walk1
  exact k _ _ _ (Fr.keep (by assumption))
theorem nonterminal_ok {a : Int} {ta : Tok} (S : Std w p loose mg mb s.heap) (hroom : d < recursionLimit)
    (k : ∀ h' tk, Keep s.heap h' → Q (.bool (decide (a ≥ 256))) { s with heap := h', toks := tk }) :
    wpAny (model prog w) (Ar d fr gs u) (call (.ref 73) [.int a ta] []) Q E s := by
  walk_at "my enter"
  repeat' walk1
  exact k _ _ (Fr.keep (by assumption))
theorem eof_ok {a : Int} {ta : Tok} (S : Std w p loose mg mb s.heap) (hroom : d < recursionLimit)
    (k : ∀ h' tk, Keep s.heap h' → Q (.bool (a == 0)) { s with heap := h', toks := tk }) :
    wpAny (model prog w) (Ar d fr gs u) (call (.ref 80) [.int a ta] []) Q E s := by
  walk_at "my enter"
  repeat' walk1
  exact k _ _ (Fr.keep (by assumption))
theorem tab64 (S : Std w p loose mg mb s.heap) : StrTab prog w s.heap 64 (kdpD EX) := by
  have h := kt_tab_in (a := 64) (D := EX.map fun p => (p.1, PySem.PyData.int p.2)) prog w S.X (by kernel_rfl) (by decide) (by kernel_rfl)
  rw [List.map_map] at h
  exact h
theorem strTab_keep {h h' : Heap} {D : List (PyData × PyData)} (T : StrTab prog w h 64 D) (k : Keep h h') : StrTab prog w h' 64 D := TabAt.keep T k
theorem contains_ok {a : Str} {ta : Tok} (S : Std w p loose mg mb s.heap) (hroom : d < recursionLimit)
    (k : ∀ h' tk, Keep s.heap h' → Q (.bool (kdpHas EX a)) { s with heap := h', toks := tk }) :
    wpAny (model prog w) (Ar d fr gs u) (call (.ref 42) [.ref 64, .str a ta] []) Q E s := by
  have T64 := tab64 S
  walk_at "my enter"
  iterate 6 walk1
  refine kdp_in (strTab_keep T64 (Fr.keep (by assumption))) ?_
  exact k _ _ (Fr.keep (by assumption))
theorem getitem_ex_ok {a : Str} {ta : Tok} (S : Std w p loose mg mb s.heap) (hroom : d < recursionLimit) (hk : kdpHas EX a = true)
    (k : ∀ h' tk t, Keep s.heap h' → Q (.int (kdpLook EX a 0) t) { s with heap := h', toks := tk }) :
    wpAny (model prog w) (Ar d fr gs u) (call (.ref 49) [.ref 64, .str a ta] []) Q E s := by
  have T64 := tab64 S
  walk_at "my enter"
  iterate 6 walk1
  refine kdp_item (strTab_keep T64 (Fr.keep (by assumption))) hk ?_
  intro t
  exact k _ _ t (Fr.keep (by assumption))
theorem getitem_str_ok {a : Str} {k : Int} {ta tb : Tok} (S : Std w p loose mg mb s.heap) (hroom : d < recursionLimit) (h0 : 0 ≤ k) (h1 : k < a.length) (h2 : a.length ≤ 1000)
    (kk : ∀ h' tk t, Keep s.heap h' → Q (.str ⟨#[a.cps.getD k.toNat 0]⟩ t) { s with heap := h', toks := tk }) :
    wpAny (model prog w) (Ar d fr gs u) (call (.ref 49) [.str a ta, .int k tb] []) Q E s := by
  walk_at "my enter"
  repeat' walk1
  rw [PySem.W.item_meets ⟨h0, h1⟩]
  exact kk _ _ _ (Fr.keep (by assumption))
end
-- loops
section
variable {prog : Program} {w : World} {A : Around} {E : Value → Shared → Prop} {s : Shared} {env : Env} {h₀ : Heap} {pos : Pos} {Q : Flow → Shared → Prop}
abbrev Inv := (Str → Option Value) → List (Addr × Obj) → Prop
def Apart (a b : List (Addr × Obj)) : Prop := ∀ p ∈ a, ∀ q ∈ b, p.1 ≠ q.1
/-- the end of a loop's turn -/
def TEnd (h₀ : Heap) (L : Addr) (J : Inv) (own : List (Addr × Obj)) (s₁ : Shared) (Q : Flow → Shared → Prop) (f : Flow) (s₂ : Shared) : Prop :=
  match f with
  | .ret v => Q (.ret v) s₂
  | .brk => Q .next s₂
  | _ => ∃ h' tk m' news' nx, s₂ = { s₁ with heap := h', toks := tk } ∧ Fr h₀ L h' m' ∧ News h₀ L h' news' ∧ (∀ p ∈ nx, p ∈ news') ∧ (∀ p ∈ own, p ∈ news') ∧ Apart nx own ∧ J m' nx
theorem TEnd.mk {L : Addr} {J : Inv} {own : List (Addr × Obj)} {s₁ : Shared} {h' : Heap} {tk : Nat} {m' : Str → Option Value} {news' nx : List (Addr × Obj)} (F : Fr h₀ L h' m') (N : News h₀ L h' news')
    (h1 : ∀ p ∈ nx, p ∈ news') (h2 : ∀ p ∈ own, p ∈ news') (h3 : Apart nx own) (hj : J m' nx) : TEnd h₀ L J own s₁ Q .next { s₁ with heap := h', toks := tk } := ⟨h', tk, m', news', nx, rfl, F, N, h1, h2, h3, hj⟩
theorem TEnd.cont {L : Addr} {J : Inv} {own : List (Addr × Obj)} {s₁ : Shared} {h' : Heap} {tk : Nat} {m' : Str → Option Value} {news' nx : List (Addr × Obj)} (F : Fr h₀ L h' m') (N : News h₀ L h' news')
    (h1 : ∀ p ∈ nx, p ∈ news') (h2 : ∀ p ∈ own, p ∈ news') (h3 : Apart nx own) (hj : J m' nx) : TEnd h₀ L J own s₁ Q .cont { s₁ with heap := h', toks := tk } := ⟨h', tk, m', news', nx, rfl, F, N, h1, h2, h3, hj⟩
def Goes (prog : Program) (w : World) (A : Around) (target : Expr) (I : Addr) (n : Nat) (P : Nat → Value → Prop) (St : Nat → Heap → Prop) : Prop :=
  ∀ i (s : Shared) v (Q : Unit → Shared → Prop) (E : Value → Shared → Prop), i < n → P i v → St (i + 1) s.heap → Q () s → wpAny (model prog w) A (letOwnedTupleGo target (.ref I) v) Q E s
theorem goes_name {prog : Program} {w : World} {A : Around} {x : Str} {pos : Pos} {I : Addr} {n : Nat} {P : Nat → Value → Prop} {St : Nat → Heap → Prop} : Goes prog w A (.Name x pos) I n P St :=
  fun _ _ _ _ _ _ _ _ h => wpAny_pure h
theorem for_ruleO {n0 : Nat} {target : Expr} {body orelse : List Stmt} {I : Addr} {fp wr : List Addr} {n : Nat} {P : Nat → Value → Prop} {St : Nat → Heap → Prop} {m : Str → Option Value} {nx : List (Addr × Obj)} {OK : Obj → Prop}
    (J : Nat → Inv) (W : Walks prog w A I fp wr n P St) (go : Goes prog w A target I n P St) (hLf : env.locals ∉ fp) (hwr : ∀ b ∈ wr, h₀.get? b = none) (hfp : ∀ q ∈ nx, q.1 ∉ fp) (hst : St 0 s.heap)
    (hI : ∀ i h, St i h → ∀ b ∈ fp, ∃ o, h.get? b = some o ∧ OK o)
    (F : Fr h₀ env.locals s.heap m) (N : News h₀ env.locals s.heap nx) (hj : J 0 m nx) (htk : n0 ≤ s.toks)
    (turn : ∀ i v m₁ nx₁ h tk own, i < n → P i v → n0 ≤ tk → (∀ q ∈ own, OK q.2) → Apart nx₁ own → J i m₁ nx₁ → Fr h₀ env.locals h m₁ → News h₀ env.locals h (nx₁ ++ own) →
      wpAny (model prog w) A (assign target env v) (fun _ s₂ => wpAny (model prog w) A (execs body env) (fun f s₃ => TEnd h₀ env.locals (J (i + 1)) own { s with heap := h, toks := tk } Q f s₃) E s₂) E { s with heap := h, toks := tk })
    (done : ∀ m₁ nx₁ h tk, n0 ≤ tk → J n m₁ nx₁ → Fr h₀ env.locals h m₁ → News h₀ env.locals h nx₁ → wpAny (model prog w) A (execs orelse env) Q E { s with heap := h, toks := tk })
    (hE : PassesOwn (model prog w) A env E) :
    codeAny (model prog w) A (.forLoop target (.ref I) body orelse env) (fun r s' => match r with | .ok f => Q f s' | .error e => cameBackBy (model prog w) A env E e s') s := by
  have hLw : env.locals ∉ wr := fun h => hLf (W.sub _ h)
  have old : ∀ b o, h₀.get? b = some o → b ∉ wr := fun b o e hb => by rw [hwr b hb] at e; cases e
  refine codeAny_forLoop_any
    (fun k s' => ∃ h' tk m' nx' i, s' = { s with heap := h', toks := tk } ∧ St i h' ∧ Fr h₀ env.locals h' m' ∧ News h₀ env.locals h' nx' ∧ (∀ p ∈ nx', p.1 ∉ fp) ∧ J i m' nx' ∧ i ≤ n ∧ k = n + 1 - i ∧ n0 ≤ tk) ?_ (n + 1)
    ⟨s.heap, s.toks, m, nx, 0, rfl, hst, F, N, hfp, hj, Nat.zero_le _, rfl, htk⟩
  rintro k s' ⟨h', tk, m', nx', i, rfl, hst', F', N', hfp', hJ, hi, rfl, htk'⟩
  have next : ∀ h₁ : Heap, (∀ b o, b ∉ wr → h'.get? b = some o → h₁.get? b = some o) → Fr h₀ env.locals h₁ m' ∧ News h₀ env.locals h₁ nx' := fun h₁ hk₁ =>
    ⟨⟨F'.ns.at' fun o e => hk₁ _ o hLw e, fun b o e => hk₁ b o (old b o e) (F'.keep b o e), F'.above⟩, fun p hp => ⟨hk₁ _ _ (fun q => hfp' p hp (W.sub _ q)) (N' p hp).1, (N' p hp).2⟩⟩
  by_cases hlt : i < n
  · refine wpAny_with_toks (n := n0) htk' (W.item i _ _ _ hlt hst' fun v h₁ tk₁ hP hst₁ hk₁ htk₁ => ?_)
    obtain ⟨F₁, N₁⟩ := next h₁ hk₁
    refine go i _ v _ _ hlt hP hst₁ ?_
    have Nown : News h₀ env.locals h₁ (ownOf h₀ fp h₁) := news_ownOf hLf
    have hOK : ∀ q ∈ ownOf h₀ fp h₁, OK q.2 := fun q hq => by
      obtain ⟨o, ho, hk⟩ := hI _ _ hst₁ q.1 (ownOf_sub q hq)
      have := (Nown q hq).1
      rw [ho] at this
      exact (Option.some.inj this) ▸ hk
    have ap : Apart nx' (ownOf h₀ fp h₁) := fun p hp q hq e => hfp' p hp (e ▸ ownOf_sub q hq)
    refine wpAny_mono (wpAny_toks_of (n := n0) htk₁ (turn i v m' nx' h₁ tk₁ (ownOf h₀ fp h₁) hlt hP htk₁ hOK ap hJ F₁ (N₁.append Nown))) (fun _ s₂ ⟨htk₂, h₂⟩ => wpAny_mono (wpAny_toks_of (n := n0) htk₂ h₂) (fun f s₃ ⟨htk₃, h₃⟩ => ?_) fun _ _ e => hE _ _ e.2) fun _ _ e => hE _ _ e.2
    have key : (∃ h' tk m' news' nx, s₃ = { s with heap := h', toks := tk } ∧ Fr h₀ env.locals h' m' ∧ News h₀ env.locals h' news' ∧ (∀ p ∈ nx, p ∈ news') ∧ (∀ p ∈ ownOf h₀ fp h₁, p ∈ news') ∧ Apart nx (ownOf h₀ fp h₁) ∧ J (i + 1) m' nx) →
        ∃ q, q < n + 1 - i ∧ ∃ h' tk m' nx' i, s₃ = { s with heap := h', toks := tk } ∧ St i h' ∧ Fr h₀ env.locals h' m' ∧ News h₀ env.locals h' nx' ∧ (∀ p ∈ nx', p.1 ∉ fp) ∧ J i m' nx' ∧ i ≤ n ∧ q = n + 1 - i ∧ n0 ≤ tk := by
      rintro ⟨h3, tk₃, m₂, news₂, nx₂, rfl, F₃, N₃, a1, a2, a3, hJ₃⟩
      have hke : ∀ b ∈ fp, ∀ o, h₁.get? b = some o → h3.get? b = some o := fun b hb o e => by
        cases hn : h₀.get? b with
        | some o₀ =>
          have : o₀ = o := by have := F₁.keep b o₀ hn; rw [e] at this; exact (Option.some.inj this).symm
          exact this ▸ F₃.keep b o₀ hn
        | none => exact (N₃ _ (a2 _ (mem_ownOf hb hn e))).1
      have hI₁ : ∀ b ∈ fp, ∃ o, h₁.get? b = some o ∧ OK o := hI _ _ hst₁
      refine ⟨n + 1 - (i + 1), by omega, h3, tk₃, m₂, nx₂, i + 1, rfl, W.frame _ _ _ hst₁ hke, F₃, fun p hp => N₃ p (a1 p hp), fun p hp hq => ?_, hJ₃, hlt, rfl, htk₃⟩
      obtain ⟨o, ho, _⟩ := hI₁ _ hq
      have nn := (N₃ p (a1 p hp)).2.2
      exact a3 p hp _ (mem_ownOf hq nn ho) rfl
    cases f with
    | ret v => exact h₃
    | brk => exact h₃
    | cont => exact key h₃
    | next => exact key h₃
  · have hin : i = n := by omega
    subst hin
    refine wpAny_with_toks (n := n0) htk' (W.done _ _ _ hst' fun h₁ tk₁ hk₁ htk₁ => ?_)
    obtain ⟨F₁, N₁⟩ := next h₁ hk₁
    exact wpAny_mono (done m' nx' h₁ tk₁ htk₁ hJ F₁ N₁) (fun _ _ x => x) fun _ _ e => hE _ _ e
theorem for_rule {target : Expr} {body orelse : List Stmt} {I : Addr} {fp wr : List Addr} {n : Nat} {P : Nat → Value → Prop} {St : Nat → Heap → Prop} {m : Str → Option Value} {nx : List (Addr × Obj)}
    (J : Nat → Inv) (W : Walks prog w A I fp wr n P St) (go : Goes prog w A target I n P St) (hLf : env.locals ∉ fp) (hwr : ∀ b ∈ wr, h₀.get? b = none) (hfp : ∀ q ∈ nx, q.1 ∉ fp) (hst : St 0 s.heap)
    (hI : ∀ i h, St i h → ∀ b ∈ fp, ∃ o, h.get? b = some o)
    (F : Fr h₀ env.locals s.heap m) (N : News h₀ env.locals s.heap nx) (hj : J 0 m nx)
    (turn : ∀ i v m₁ nx₁ h tk own, i < n → P i v → Apart nx₁ own → J i m₁ nx₁ → Fr h₀ env.locals h m₁ → News h₀ env.locals h (nx₁ ++ own) →
      wpAny (model prog w) A (assign target env v) (fun _ s₂ => wpAny (model prog w) A (execs body env) (fun f s₃ => TEnd h₀ env.locals (J (i + 1)) own { s with heap := h, toks := tk } Q f s₃) E s₂) E { s with heap := h, toks := tk })
    (done : ∀ m₁ nx₁ h tk, J n m₁ nx₁ → Fr h₀ env.locals h m₁ → News h₀ env.locals h nx₁ → wpAny (model prog w) A (execs orelse env) Q E { s with heap := h, toks := tk })
    (hE : PassesOwn (model prog w) A env E) :
    codeAny (model prog w) A (.forLoop target (.ref I) body orelse env) (fun r s' => match r with | .ok f => Q f s' | .error e => cameBackBy (model prog w) A env E e s') s :=
  for_ruleO (n0 := 0) (OK := fun _ => True) J W go hLf hwr hfp hst (fun i h st b hb => let ⟨o, ho⟩ := hI i h st b hb; ⟨o, ho, trivial⟩) F N hj (Nat.zero_le _)
    (fun i v m₁ nx₁ h tk own hi hP _ _ ap hJ F N => turn i v m₁ nx₁ h tk own hi hP ap hJ F N) (fun m₁ nx₁ h tk _ hJ F N => done m₁ nx₁ h tk hJ F N) hE

theorem while_rule {test : Expr} {body orelse : List Stmt} {m : Str → Option Value} {nx : List (Addr × Obj)} (J : Nat → Inv) (n : Nat)
    (F : Fr h₀ env.locals s.heap m) (N : News h₀ env.locals s.heap nx) (hj : J n m nx)
    (turn : ∀ i m₁ nx₁ h tk, J i m₁ nx₁ → Fr h₀ env.locals h m₁ → News h₀ env.locals h nx₁ →
      wpAny (model prog w) A (isTrue test env (eval test env)) (fun b s₂ => if b = true then wpAny (model prog w) A (execs body env) (fun f s₃ => TEnd h₀ env.locals (fun m nx => ∃ j, j < i ∧ J j m nx) [] { s with heap := h, toks := tk } Q f s₃) E s₂
        else wpAny (model prog w) A (execs orelse env) Q E s₂) E { s with heap := h, toks := tk })
    (hE : PassesOwn (model prog w) A env E) :
    wpAny (model prog w) A (exec (.While test body orelse pos) env) Q E s := by
  refine wpAny_While (codeAny_whileLoop (fun k s' => ∃ h' tk m' nx', s' = { s with heap := h', toks := tk } ∧ Fr h₀ env.locals h' m' ∧ News h₀ env.locals h' nx' ∧ J k m' nx') ?_ n ⟨s.heap, s.toks, m, nx, rfl, F, N, hj⟩)
  rintro k s' ⟨h', tk, m', nx', rfl, F', N', hJ⟩
  refine wpAny_mono (turn k m' nx' h' tk hJ F' N') (fun b s₂ h₂ => ?_) fun _ _ e => hE _ _ e
  cases b with
  | false =>
    simp only [Bool.false_eq_true, if_false] at h₂ ⊢
    exact wpAny_mono h₂ (fun _ _ x => x) fun _ _ e => hE _ _ e
  | true =>
    simp only [if_true] at h₂ ⊢
    refine wpAny_mono h₂ (fun f s₃ h₃ => ?_) fun _ _ e => hE _ _ e
    have key : (∃ h'' tk' m' news' nx, s₃ = { s with heap := h'', toks := tk' } ∧ Fr h₀ env.locals h'' m' ∧ News h₀ env.locals h'' news' ∧ (∀ p ∈ nx, p ∈ news') ∧ (∀ p ∈ ([] : List (Addr × Obj)), p ∈ news') ∧ Apart nx [] ∧ ∃ j, j < k ∧ J j m' nx) →
        ∃ j, j < k ∧ ∃ h' tk m' nx', s₃ = { s with heap := h', toks := tk } ∧ Fr h₀ env.locals h' m' ∧ News h₀ env.locals h' nx' ∧ J j m' nx' := by
      rintro ⟨h3, tk₃, m₂, news₂, nx₂, rfl, F₃, N₃, a1, _, _, j, hj, hJ₃⟩
      exact ⟨j, hj, h3, tk₃, m₂, nx₂, rfl, F₃, fun p hp => N₃ p (a1 p hp), hJ₃⟩
    cases f with
    | ret v => exact h₃
    | brk => exact h₃
    | cont => exact key h₃
    | next => exact key h₃
theorem reveal {L : Addr} {h : Heap} {m : Str → Option Value} {x : Str} {v : Value} (F : Fr h₀ L h m) (hx : m x = some v) : Fr h₀ L h (fun y => if y = x then some v else m y) := by
  have e : (fun y => if y = x then some v else m y) = m := by
    funext y
    by_cases h : y = x
    · subst h; rw [if_pos rfl, hx]
    · rw [if_neg h]
  rw [e]; exact F
theorem at_reveal {m : Str → Option Value} {x y : Str} {v v' : Value} (h : m x = some v) (h' : m y = some v') : (fun z => if z = y then some v' else m z) x = some v := by
  by_cases e : x = y
  · subst e; rw [h] at h'; cases h'; simp
  · simp [e, h]
theorem reveal2 {L : Addr} {h : Heap} {m : Str → Option Value} {x1 x2 : Str} {v1 v2 : Value} (F : Fr h₀ L h m) (h1 : m x1 = some v1) (h2 : m x2 = some v2) : Fr h₀ L h (fun y => if y = x1 then some v1 else if y = x2 then some v2 else m y) :=
  reveal (m := fun z => if z = x2 then some v2 else m z) (reveal F h2) (at_reveal h1 h2)
theorem reveal3 {L : Addr} {h : Heap} {m : Str → Option Value} {x1 x2 x3 : Str} {v1 v2 v3 : Value} (F : Fr h₀ L h m) (h1 : m x1 = some v1) (h2 : m x2 = some v2) (h3 : m x3 = some v3) : Fr h₀ L h (fun y => if y = x1 then some v1 else if y = x2 then some v2 else if y = x3 then some v3 else m y) :=
  reveal2 (m := fun z => if z = x3 then some v3 else m z) (reveal F h3) (at_reveal h1 h3) (at_reveal h2 h3)
theorem reveal4 {L : Addr} {h : Heap} {m : Str → Option Value} {x1 x2 x3 x4 : Str} {v1 v2 v3 v4 : Value} (F : Fr h₀ L h m) (h1 : m x1 = some v1) (h2 : m x2 = some v2) (h3 : m x3 = some v3) (h4 : m x4 = some v4) : Fr h₀ L h (fun y => if y = x1 then some v1 else if y = x2 then some v2 else if y = x3 then some v3 else if y = x4 then some v4 else m y) :=
  reveal3 (m := fun z => if z = x4 then some v4 else m z) (reveal F h4) (at_reveal h1 h4) (at_reveal h2 h4) (at_reveal h3 h4)
theorem reveal5 {L : Addr} {h : Heap} {m : Str → Option Value} {x1 x2 x3 x4 x5 : Str} {v1 v2 v3 v4 v5 : Value} (F : Fr h₀ L h m) (h1 : m x1 = some v1) (h2 : m x2 = some v2) (h3 : m x3 = some v3) (h4 : m x4 = some v4) (h5 : m x5 = some v5) : Fr h₀ L h (fun y => if y = x1 then some v1 else if y = x2 then some v2 else if y = x3 then some v3 else if y = x4 then some v4 else if y = x5 then some v5 else m y) :=
  reveal4 (m := fun z => if z = x5 then some v5 else m z) (reveal F h5) (at_reveal h1 h5) (at_reveal h2 h5) (at_reveal h3 h5) (at_reveal h4 h5)
theorem reveal6 {L : Addr} {h : Heap} {m : Str → Option Value} {x1 x2 x3 x4 x5 x6 : Str} {v1 v2 v3 v4 v5 v6 : Value} (F : Fr h₀ L h m) (h1 : m x1 = some v1) (h2 : m x2 = some v2) (h3 : m x3 = some v3) (h4 : m x4 = some v4) (h5 : m x5 = some v5) (h6 : m x6 = some v6) : Fr h₀ L h (fun y => if y = x1 then some v1 else if y = x2 then some v2 else if y = x3 then some v3 else if y = x4 then some v4 else if y = x5 then some v5 else if y = x6 then some v6 else m y) :=
  reveal5 (m := fun z => if z = x6 then some v6 else m z) (reveal F h6) (at_reveal h1 h6) (at_reveal h2 h6) (at_reveal h3 h6) (at_reveal h4 h6) (at_reveal h5 h6)
theorem reveal7 {L : Addr} {h : Heap} {m : Str → Option Value} {x1 x2 x3 x4 x5 x6 x7 : Str} {v1 v2 v3 v4 v5 v6 v7 : Value} (F : Fr h₀ L h m) (h1 : m x1 = some v1) (h2 : m x2 = some v2) (h3 : m x3 = some v3) (h4 : m x4 = some v4) (h5 : m x5 = some v5) (h6 : m x6 = some v6) (h7 : m x7 = some v7) : Fr h₀ L h (fun y => if y = x1 then some v1 else if y = x2 then some v2 else if y = x3 then some v3 else if y = x4 then some v4 else if y = x5 then some v5 else if y = x6 then some v6 else if y = x7 then some v7 else m y) :=
  reveal6 (m := fun z => if z = x7 then some v7 else m z) (reveal F h7) (at_reveal h1 h7) (at_reveal h2 h7) (at_reveal h3 h7) (at_reveal h4 h7) (at_reveal h5 h7) (at_reveal h6 h7)
theorem reveal8 {L : Addr} {h : Heap} {m : Str → Option Value} {x1 x2 x3 x4 x5 x6 x7 x8 : Str} {v1 v2 v3 v4 v5 v6 v7 v8 : Value} (F : Fr h₀ L h m) (h1 : m x1 = some v1) (h2 : m x2 = some v2) (h3 : m x3 = some v3) (h4 : m x4 = some v4) (h5 : m x5 = some v5) (h6 : m x6 = some v6) (h7 : m x7 = some v7) (h8 : m x8 = some v8) : Fr h₀ L h (fun y => if y = x1 then some v1 else if y = x2 then some v2 else if y = x3 then some v3 else if y = x4 then some v4 else if y = x5 then some v5 else if y = x6 then some v6 else if y = x7 then some v7 else if y = x8 then some v8 else m y) :=
  reveal7 (m := fun z => if z = x8 then some v8 else m z) (reveal F h8) (at_reveal h1 h8) (at_reveal h2 h8) (at_reveal h3 h8) (at_reveal h4 h8) (at_reveal h5 h8) (at_reveal h6 h8) (at_reveal h7 h8)
theorem allLt_apart {d : Addr} : ∀ {l : List (Addr × Obj)}, AllLt d l → ∀ q ∈ l, d ≠ q.1
  | [], _, q, hq => nomatch hq
  | p :: r, h, q, hq => by
    rcases List.mem_cons.mp hq with rfl | hq
    · exact Nat.ne_of_gt h.1
    · exact allLt_apart h.2 q hq
theorem Apart.nil {own : List (Addr × Obj)} : Apart [] own := fun _ h => nomatch h
theorem Apart.cons {a : Addr} {o : Obj} {nx own : List (Addr × Obj)} (h : ∀ q ∈ own, a ≠ q.1) (r : Apart nx own) : Apart ((a, o) :: nx) own := fun p hp => by
  rcases List.mem_cons.mp hp with rfl | hp
  · exact h
  · exact r p hp
theorem Apart.none {nx : List (Addr × Obj)} : Apart nx [] := fun _ _ _ h => nomatch h
end
-- iters
section
variable {prog : Program} {w : World} {A : Around} {E : Value → Shared → Prop} {s : Shared} {env : Env} {h₀ : Heap} {Q : Flow → Shared → Prop} {target : Expr} {body orelse : List Stmt} {m : Str → Option Value} {nx : List (Addr × Obj)}
/-- what is asked behind an iterator: the loop -/
abbrev LoopX (prog : Program) (w : World) (A : Around) (env : Env) (target : Expr) (body orelse : List Stmt) (Q : Flow → Shared → Prop) (E : Value → Shared → Prop) (it : Value) (s : Shared) : Prop :=
  codeAny (model prog w) A (.forLoop target it body orelse env) (fun r s' => match r with | .ok f => Q f s' | .error e => cameBackBy (model prog w) A env E e s') s
abbrev Turn (prog : Program) (w : World) (A : Around) (env : Env) (h₀ : Heap) (target : Expr) (body : List Stmt) (J : Nat → Inv) (Q : Flow → Shared → Prop) (E : Value → Shared → Prop) (s : Shared) (i : Nat) (v : Value) : Prop :=
  ∀ m₁ nx₁ h tk own, Apart nx₁ own → J i m₁ nx₁ → Fr h₀ env.locals h m₁ → News h₀ env.locals h (nx₁ ++ own) →
    wpAny (model prog w) A (assign target env v) (fun _ s₂ => wpAny (model prog w) A (execs body env) (fun f s₃ => TEnd h₀ env.locals (J (i + 1)) own { s with heap := h, toks := tk } Q f s₃) E s₂) E { s with heap := h, toks := tk }
abbrev Done (prog : Program) (w : World) (A : Around) (env : Env) (h₀ : Heap) (orelse : List Stmt) (J : Inv) (Q : Flow → Shared → Prop) (E : Value → Shared → Prop) (s : Shared) : Prop :=
  ∀ m₁ nx₁ h tk, J m₁ nx₁ → Fr h₀ env.locals h m₁ → News h₀ env.locals h nx₁ → wpAny (model prog w) A (execs orelse env) Q E { s with heap := h, toks := tk }
theorem push_news {L : Addr} {h : Heap} (N : News h₀ L h nx) (o : Obj) : News h₀ L (h.push o) nx := fun p hp => ⟨Heap.get?_push_of_some _ (N p hp).1, (N p hp).2⟩
theorem iter_list {l : Addr} {items : Array Value} (J : Nat → Inv) (hh : A.handled = none) (hl : s.heap.IsList l items) (hL : l ≠ env.locals) (hx : ∀ q ∈ nx, q.1 ≠ l)
    (F : Fr h₀ env.locals s.heap m) (N : News h₀ env.locals s.heap nx) (hj : J 0 m nx)
    (turn : ∀ i v, items[i]? = some v → Turn prog w A env h₀ target body J Q E s i v) (done : Done prog w A env h₀ orelse (J items.size) Q E s) (hE : PassesOwn (model prog w) A env E) :
    wpAny (model prog w) A (pyIter (.ref l)) (LoopX prog w A env target body orelse Q E) E s := by
  have idX := hl
  obtain ⟨ol, hol, hlr⟩ := idX
  have hne : l ≠ s.heap.objs.size := Nat.ne_of_lt (Heap.lt_size hol)
  refine wpAny_pyIter_list hl ?_
  refine for_rule (St := fun i h => h.IsListIter s.heap.objs.size l i ∧ h.IsList l items) J (Walks.list hh s.heap.objs.size l hne items) (fun i s' v Q' E' _ _ st h => letGo_listiter st.1 h) ?_ ?_ ?_ ⟨⟨_, Heap.get?_push_size _ rfl, rfl, rfl⟩, hl.at fun o e => Heap.get?_push_of_some _ e⟩ ?_ (F.push _) (push_news N _) hj ?_ ?_ hE
  · intro hm
    rcases List.mem_cons.mp hm with e | hm
    · exact absurd F.ns.lt (e ▸ Nat.lt_irrefl _)
    · exact hL (List.mem_singleton.mp hm).symm
  · intro b hb
    rw [List.mem_singleton.mp hb]
    exact next_is_new F
  · intro q hq hm
    rcases List.mem_cons.mp hm with e | hm
    · exact absurd (Heap.lt_size (N q hq).1) (e ▸ Nat.lt_irrefl _)
    · exact hx q hq (List.mem_singleton.mp hm)
  · intro i h st b hb
    rcases List.mem_cons.mp hb with rfl | hb
    · obtain ⟨o, ho, _⟩ := st.1; exact ⟨o, ho⟩
    · rw [List.mem_singleton.mp hb]; obtain ⟨o, ho, _⟩ := st.2; exact ⟨o, ho⟩
  · intro i v m₁ nx₁ h tk own _ hP
    exact turn i v hP m₁ nx₁ h tk own
  · exact done
theorem iter_str {x : Str} {t : Tok} {px : Pos} {v : Str} (J : Nat → Inv) (hh : A.handled = none)
    (F : Fr h₀ env.locals s.heap m) (N : News h₀ env.locals s.heap nx) (hj : J 0 m nx)
    (turn : ∀ i c u, x.cps[i]? = some c → Turn prog w A env h₀ (.Name v px) body J Q E s i (.str ⟨#[c]⟩ u)) (done : Done prog w A env h₀ orelse (J x.cps.size) Q E s) (hE : PassesOwn (model prog w) A env E) :
    wpAny (model prog w) A (pyIter (.str x t)) (LoopX prog w A env (.Name v px) body orelse Q E) E s := by
  have base : ∀ (o : Obj) (nm : String), (∀ A' : Around, A'.handled = none → Walks prog w A' s.heap.objs.size [s.heap.objs.size] [s.heap.objs.size] x.cps.size (SignAt x) (fun i h => h.IsStrIter s.heap.objs.size nm x t i)) → (s.heap.push o).IsStrIter s.heap.objs.size nm x t 0 →
      LoopX prog w A env (.Name v px) body orelse Q E (.ref s.heap.objs.size) { s with heap := s.heap.push o } := by
    intro o nm W st
    refine for_rule J (W A hh) goes_name ?_ ?_ ?_ st ?_ (F.push _) (push_news N _) hj ?_ ?_ hE
    · intro hm
      exact absurd F.ns.lt ((List.mem_singleton.mp hm) ▸ Nat.lt_irrefl _)
    · intro b hb
      rw [List.mem_singleton.mp hb]
      exact next_is_new F
    · intro q hq hm
      exact absurd (Heap.lt_size (N q hq).1) ((List.mem_singleton.mp hm) ▸ Nat.lt_irrefl _)
    · intro i h st b hb
      rw [List.mem_singleton.mp hb]; obtain ⟨o, ho, _⟩ := st; exact ⟨o, ho⟩
    · rintro i v m₁ nx₁ h tk own _ ⟨c, u, hc, rfl⟩
      exact turn i c u hc m₁ nx₁ h tk own
    · exact done
  cases ha : x.cps.all (· < 128)
  · exact wpAny_pyIter_wide ha (base _ _ (fun A' hA => Walks.strWide hA _ x t) ⟨_, Heap.get?_push_size _ rfl, rfl, rfl⟩)
  · exact wpAny_pyIter_ascii ha (base _ _ (fun A' hA => Walks.strAscii hA _ x t) ⟨_, Heap.get?_push_size _ rfl, rfl, rfl⟩)
theorem iter_range {r : Addr} {b : Int} {t u v : Tok} (J : Nat → Inv) (hh : A.handled = none) (hr : IsRange s.heap r 0 b 1 t u v) (h0 : 0 ≤ b) (h1 : b < 2 ^ 62)
    (F : Fr h₀ env.locals s.heap m) (N : News h₀ env.locals s.heap nx) (hj : J 0 m nx)
    (turn : ∀ i : Nat, ∀ tk, (i : Int) < b → Turn prog w A env h₀ target body J Q E s i (.int i tk)) (done : Done prog w A env h₀ orelse (J b.toNat) Q E s) (hE : PassesOwn (model prog w) A env E)
    (go : ∀ I : Addr, Goes prog w A target I b.toNat (fun i v => ∃ t, v = .int (0 + i * 1) t) (fun i h => IsRangeIter h I (0 + (i : Nat) * 1) ((b.toNat : Int) - (i : Nat)) 1)) :
    wpAny (model prog w) A (pyIter (.ref r)) (LoopX prog w A env target body orelse Q E) E s := by
  refine wpAny_pyIter_range hr (small_one (by omega) (by omega) (by omega) h1) ?_
  intros
  have W := Walks.range (prog := prog) (w := w) hh s.heap.objs.size 0 1 b.toNat
  have hsz : Builtin.Range.rangeSize 0 b 1 = b := by rw [rangeSize_one]; split <;> omega
  refine for_rule J W (go _) ?_ ?_ ?_ ?_ ?_ (F.push _) (push_news N _) hj ?_ ?_ hE
  · intro hm
    exact absurd F.ns.lt ((List.mem_singleton.mp hm) ▸ Nat.lt_irrefl _)
  · intro b' hb
    rw [List.mem_singleton.mp hb]
    exact next_is_new F
  · intro q hq hm
    exact absurd (Heap.lt_size (N q hq).1) ((List.mem_singleton.mp hm) ▸ Nat.lt_irrefl _)
  · have e1 : (0 : Int) + ((0 : Nat) : Int) * 1 = 0 := by simp
    have e2 : (b.toNat : Int) - ((0 : Nat) : Int) = b := by omega
    show IsRangeIter _ _ (0 + ((0 : Nat) : Int) * 1) ((b.toNat : Int) - ((0 : Nat) : Int)) 1
    rw [e1, e2, hsz]
    exact Heap.get?_push_size _ rfl
  · intro i h st b' hb
    rw [List.mem_singleton.mp hb]; exact ⟨_, st⟩
  · rintro i v' m₁ nx₁ h tk own hi ⟨tt, rfl⟩
    have e : (0 : Int) + (i : Int) * 1 = i := by omega
    rw [e]
    exact turn i tt (by omega) m₁ nx₁ h tk own
  · exact done
end
-- halved
abbrev S (l : List Nat) : Str := ⟨l.toArray⟩
theorem S_len (l : List Nat) : (S l).length = l.length := by simp [PySem.Str.length]
theorem S_add (a b : List Nat) : S a ++ S b = S (a ++ b) := by
  refine PySem.Str.ext' ?_
  rw [PySem.Str.cps_append]; simp
theorem S_beq (a b : List Nat) : (S a == S b) = decide (a = b) := by
  rw [Bool.eq_iff_iff]; simp [S]
theorem S_one (c : Nat) : (⟨#[c]⟩ : Str) = S [c] := rfl
theorem truthy_S {prog : Program} {w : World} {A : Around} {E : Value → Shared → Prop} {s : Shared} {l : List Nat} {t : Tok} {Q : Bool → Shared → Prop} (hl : l.length ≤ 100000) (h : Q (!l.isEmpty) { s with toks := s.toks + 1 + 1 }) :
    wpAny (model prog w) A (truthy (.str (S l) t)) Q E s := by
  refine SBL.truthy (by rw [S_len]; omega) ?_
  have e : (((S l).length : Int) != 0) = !l.isEmpty := by rw [S_len]; cases l <;> simp <;> omega
  rw [e]; exact h
/-- one sign of the halving -/
def hstep (st : List Nat × List Nat) (c : Nat) : List Nat × List Nat := if [c] = st.2 then (st.1, []) else (st.1 ++ [c], [c])
def halvedL (l : List Nat) : List Nat := (l.foldl hstep ([], [])).1
theorem hstep_len (l : List Nat) : ∀ st : List Nat × List Nat, (l.foldl hstep st).1.length ≤ st.1.length + l.length ∧ (l.foldl hstep st).2.length ≤ max st.2.length 1 := by
  induction l with
  | nil => intro st; simp; omega
  | cons c r ih =>
    intro st
    rw [List.foldl_cons]
    have := ih (hstep st c)
    unfold hstep at this ⊢
    split at this <;> rename_i h <;> simp only [h, if_true, if_false, List.length_append, List.length_cons, List.length_nil] at this ⊢ <;> omega
theorem take_fold {α β : Type} (f : β → α → β) (b : β) {l : List α} {i : Nat} {c : α} (h : l[i]? = some c) : (l.take (i + 1)).foldl f b = f ((l.take i).foldl f b) c := by
  rw [List.take_add_one, h]; simp
section
variable {w : World} {d u : Nat} {fr : Option (List Env)} {gs : Option (List Code)} {E : Value → Shared → Prop} {s : Shared} {p : Program} {loose : List Str} {mg mb : Str → Option Value} {Q : Value → Shared → Prop}
theorem halved_ok {l : List Nat} {t0 : Tok} (S0 : Std w p loose mg mb s.heap) (hroom : d < recursionLimit) (hl : l.length ≤ 1000)
    (k : ∀ h' t tk, Keep s.heap h' → Q (.str (S (halvedL l)) t) { s with heap := h', toks := tk }) :
    wpAny (model prog w) (Ar d fr gs u) (call (.ref 120) [.str (S l) t0] []) Q E s := by
  walk_at "my enter"
  repeat' walk_at "my step"
  refine wpAny_For ?_ (by intro _; rfl)
  repeat' walk_at "my step"
  rename Fr _ _ _ _ => F
  refine iter_str (nx := []) (fun i m nx => nx = [] ∧ ∃ t1 t2, m (Str.ofString "short") = some (.str (S ((l.take i).foldl hstep ([], [])).1) t1) ∧ m (Str.ofString "spare") = some (.str (S ((l.take i).foldl hstep ([], [])).2) t2)) rfl F (fun p hp => nomatch hp) ⟨rfl, _, _, rfl, rfl⟩ ?_ ?_ PassesOwn.never
  · rintro i c t hc m₁ nx₁ h tk own ap ⟨rfl, t1, t2, h1, h2⟩ F N
    have hc' : l[i]? = some c := by simpa [S] using hc
    have e1 := take_fold hstep ([], []) hc'
    have hlen := hstep_len (l.take i) ([], [])
    have hti : (l.take i).length ≤ 1000 := by rw [List.length_take]; omega
    generalize (l.take i).foldl hstep ([], []) = st at h1 h2 hlen e1
    obtain ⟨sh, sp⟩ := st
    dsimp only at h1 h2 hlen
    have hsz : (S sh).length + (⟨#[c]⟩ : Str).length ≤ sizeLine := by
      rw [S_len, sizeLine_eq]; show sh.length + 1 ≤ _
      simp at hlen; omega
    replace F := reveal2 F h1 h2
    repeat' walk_at "my step"
    · (rename (_ == _) = true => hc)
      have hs : [c] = sp := by have := (S_beq [c] sp).symm.trans hc; simpa using this
      refine TEnd.mk (nx := []) (by assumption) (by assumption) (fun p hp => nomatch hp) (by walk_at "my own") Apart.nil ?_
      dsimp only
      rw [e1]; simp only [hstep, hs, if_true]; exact ⟨trivial, _, _, rfl, rfl⟩
    · (rename (_ == _) = false => hc)
      have hs : ¬ [c] = sp := by have := (S_beq [c] sp).symm.trans hc; simpa using this
      refine TEnd.mk (nx := []) (by assumption) (by assumption) (fun p hp => nomatch hp) (by walk_at "my own") Apart.nil ?_
      dsimp only
      rw [e1]; simp only [hstep, hs, if_false, ← S_add]; exact ⟨trivial, _, _, rfl, rfl⟩
  · rintro m₁ nx₁ h tk ⟨rfl, t1, t2, h1, h2⟩ F N
    have e : l.take (S l).cps.size = l := by simp
    rw [e] at h1
    replace F := reveal F h1
    repeat' walk_at "my step"
    exact k _ _ _ (Fr.keep (by assumption))
end
-- cells
section
variable {w : World} {A : Around} {E : Value → Shared → Prop} {s : Shared} {p : Program} {loose : List Str} {mg mb : Str → Option Value}
theorem enterC {Q : Value → Shared → Prop} {name qual : Str} {params : Arguments} {body : List Stmt} {scope : Scope} {dV kV doc pm cdv ct oc : Value} {an od : Option Addr} {osl : Array (Option Value)} {f : Addr} {args : List Value}
    (S : Std w p loose mg mb s.heap) (hroom : A.depth < recursionLimit)
    (ho : (hd.heap_39 w.params).lookup f = some ⟨oc, od, .func (fnOf name qual params body scope dV kV doc pm an cdv ct), osl⟩) (hcd : codeIn (hd.heap_39 w.params) cdv qual = true)
    (hbind : bindArgs (fnOf name qual params body scope dV kV doc pm an cdv ct) ⟨args, []⟩ = pure (posB params args))
    (hkind : ((posB params args).all fun y => scope.names.lookup y.1 == some .local || scope.names.lookup y.1 == some .cell) = true)
    (hnd : ((cellsFrom 0 scope.names []).map (·.1)).Nodup)
    (h : ∀ h₁ tk cells, Fr s.heap s.heap.objs.size h₁ (bindL (envOfC qual scope s.heap.objs.size f cdv).kindOf (posB params args) fun _ => none) → News s.heap s.heap.objs.size h₁ cells →
      CellsAre (bindC (envOfC qual scope s.heap.objs.size f cdv).kindOf (posB params args) fun _ => none) (cellsFrom (s.heap.objs.size + 1) scope.names []) cells → (hd.heap_39 w.params).In s.heap → TopRead p loose mg mb s.heap →
      wpAny (model prog w) (A.deeper (envOfC qual scope s.heap.objs.size f cdv)) (execs body (envOfC qual scope s.heap.objs.size f cdv))
        (fun fl s' => Q (match fl with | .ret v => v | _ => .none) s') (fun _ _ => False) { s with heap := h₁, toks := tk })
    (hco : scope.isCoroutine = false) (hgen : scope.isGenerator = false) (hk : scope.kind = .function) :
    wpAny (model prog w) A (call (.ref f) args []) Q E s := by
  refine wpAny_call ?_
  refine codeAny_call_function hroom (S.X _ _ ho) rfl hco hgen rfl (codeRec_of S.X hcd) ((BindsTo.of_eq hbind) _ _ _ _ ?_)
  refine wpAny_newFunctionEnv_cells hk (kindsX hkind _) fun env' he s' x => ?_
  subst he
  refine ⟨S.T.nolimit.keeps x.toInCall.keep, codeAny_func ?_⟩
  obtain ⟨h₁, tk, rfl, _⟩ := x.done
  have hk₁ := x.toInCall.keep
  obtain ⟨cells, NC, Y⟩ := Cl.news (h₀ := s.heap) (Nat.le_refl _) fun n c hm => ⟨x.cell n c (lookup_of_mem_nodup (cellsFrom_names scope.names 0 (s.heap.objs.size + 1) [] [] rfl ▸ hnd) hm), x.above n c hm⟩
  exact wpAny_mono (h h₁ tk cells ⟨x.toInCall.ns, hk₁, Nat.le_refl _⟩ NC Y S.X S.T) (fun _ _ x => x) (fun _ _ x => x.elim)
end
local macro_rules | `(tactic| walk_at "call builtin:len") => `(tactic| ((with_reducible show wpAny _ _ (PySem.call (Value.builtin "len") [Value.str (S _) _] _) _ _ _); refine SBL.len (by rw [S_len]; first | omega | (simp; omega) | (simp; done)) ?_; rw [S_len]))
local macro_rules | `(tactic| walk_at "truthy str") => `(tactic| ((with_reducible show wpAny _ _ (PySem.truthy (Value.str (S _) _)) _ _ _); refine truthy_S (by first | omega | (simp; omega) | (simp; done)) ?_))
local macro_rules | `(tactic| walk_at "my enterC") => `(tactic| (refine' enterC (by assumption) (by first | assumption | omega) ?k1 ?k2 ?k3 ?k4 ?kD ?_ ?c1 ?c2 ?c3; (case k1 => k_is); (case k2 => k_is); (case k3 => exact rfl); (case k4 => exact rfl); (case kD => decide +kernel); (case c1 => rfl); (case c2 => rfl); (case c3 => rfl); intro h₁ tk cells F N Y X T; k_cells Y))
local macro_rules | `(tactic| walk_at "my cname") => `(tactic| ((with_reducible show wpAny _ _ (eval (Expr.Name _ _) _) _ _ _); first
  | (refine wpAny_Name (wpAny_loadName_local ?q1 ?q2 (by assumption) (by assumption) ?_) (by decide); (case q1 => rfl); (case q2 => rfl))
  | (refine wpAny_Name (wpAny_loadName_cell ?q1 ?q2 ?q3 (by assumption) ?_) (by decide); (case q1 => rfl); (case q2 => rfl); (case q3 => rfl))))
local macro_rules | `(tactic| walk_at "my cstep") => `(tactic| first | walk_at "my cname" | walk_at "my step")
-- txt
section
open Builtin Builtin.Str StrLaws
def occL (l b : List Nat) (hi : Nat) : Nat → Nat → Nat → Nat → List Nat
  | 0, _, _, _ => []
  | n + 1, i, free, left => if 0 < left ∧ free ≤ i ∧ i + b.length ≤ hi ∧ (l.drop i).take b.length = b then i :: occL l b hi n (i + 1) (i + b.length) (left - 1) else occL l b hi n (i + 1) free left
theorem subAt_S (l b : List Nat) (i : Nat) : subAt (S l) (S b) i = decide ((l.drop i).take b.length = b) := by
  rw [subAt_eq, S_len, Bool.eq_iff_iff]; simp
theorem occ_run (l b : List Nat) (hi limit : Nat) : ∀ (n i free : Nat) (arr : Array Nat),
    (forIn (List.range' i n) (arr, free) (occBody (S l) (S b) hi limit)).run.fst.toList = arr.toList ++ occL l b hi n i free (limit - arr.size)
  | 0, i, free, arr => by simp [occL]
  | n + 1, i, free, arr => by
    rw [List.range'_succ, List.forIn_cons]
    unfold occBody
    by_cases h : ((arr.size < limit ∧ free ≤ i) ∧ i + b.length ≤ hi) ∧ (l.drop i).take b.length = b
    · have h' : ((arr.size < limit ∧ free ≤ i) ∧ i + (S b).length ≤ hi) ∧ subAt (S l) (S b) i = true := ⟨⟨h.1.1, by rw [S_len]; exact h.1.2⟩, by rw [subAt_S]; simpa using h.2⟩
      rw [if_pos h']
      have ih := occ_run l b hi limit n (i + 1) (i + (S b).length) (arr.push i)
      have c2 : 0 < limit - arr.size ∧ free ≤ i ∧ i + b.length ≤ hi ∧ (l.drop i).take b.length = b := ⟨by omega, h.1.1.2, h.1.2, h.2⟩
      rw [occL, if_pos c2]
      rw [Array.toList_push, Array.size_push, List.append_assoc, ← Nat.sub_sub, S_len] at ih
      exact ih
    · have h' : ¬ (((arr.size < limit ∧ free ≤ i) ∧ i + (S b).length ≤ hi) ∧ subAt (S l) (S b) i = true) := fun q => h ⟨⟨q.1.1, by have := q.1.2; rwa [S_len] at this⟩, by have := q.2; rw [subAt_S] at this; simpa using this⟩
      rw [if_neg h']
      have c2 : ¬ (0 < limit - arr.size ∧ free ≤ i ∧ i + b.length ≤ hi ∧ (l.drop i).take b.length = b) := fun q => h ⟨⟨⟨by omega, q.2.1⟩, q.2.2.1⟩, q.2.2.2⟩
      rw [occL, if_neg c2]
      exact occ_run l b hi limit n (i + 1) free arr
theorem occ_S (l b : List Nat) (lo hi limit : Nat) : occurrences (S l) (S b) lo hi limit = occL l b hi (hi + 1 - lo) lo lo limit := by
  rw [occ_eq, occ_run]; simp
theorem occL_skip {l b : List Nat} {hi n i free left : Nat} (h : i < free ∨ (l.drop i).take b.length ≠ b) : occL l b hi (n + 1) i free left = occL l b hi n (i + 1) free left := by
  rw [occL, if_neg]
  rintro ⟨_, h1, _, h2⟩
  rcases h with h | h
  · omega
  · exact h h2
theorem occL_hit {l b : List Nat} {hi n i free left : Nat} (h0 : 0 < left) (h1 : free ≤ i) (h2 : i + b.length ≤ hi) (h3 : (l.drop i).take b.length = b) :
    occL l b hi (n + 1) i free left = i :: occL l b hi n (i + 1) (i + b.length) (left - 1) := by
  rw [occL, if_pos ⟨h0, h1, h2, h3⟩]
def dots : List Nat := [46, 46, 46]
/-- the word's signs, dots behind each -/
def dotted (w : List Nat) : List Nat := w.flatMap fun c => c :: dots
def patL (w : List Nat) : List Nat := if w = [] then dots ++ dots else dots ++ dotted w
def cutsAt : Nat → List Nat → List Nat
  | i, [] => [i]
  | i, _ :: r => i :: cutsAt (i + 4) r
theorem occ_dotted (l : List Nat) : ∀ (w : List Nat) (i n free left : Nat), (∀ c ∈ w, c ≠ 46) → l.drop i = dots ++ dotted w → l.length = i + 3 + 4 * w.length → n = 4 * w.length + 4 → w.length < left → free ≤ i → occL l dots l.length n i free left = cutsAt i w
  | [], i, n, free, left, _, hd, hl, hn, hk, hf => by
    subst hn
    rw [occL_hit (by simpa using hk) hf (by rw [hl]; simp [dots]) (by rw [hd]; rfl)]
    simp only [cutsAt]
    rw [occL_skip (.inl (by simp [dots])), occL_skip (.inl (by simp [dots]))]
    rw [occL, if_neg]
    · rfl
    · rintro ⟨_, _, h, _⟩; rw [hl] at h; simp [dots] at h; omega
  | c :: r, i, n, free, left, hc, hd, hl, hn, hk, hf => by
    have hn' : n = (4 * r.length + 4) + 4 := by rw [hn, List.length_cons]; omega
    subst hn'
    rw [List.length_cons] at hl hk
    have e : dotted (c :: r) = c :: (dots ++ dotted r) := by simp [dotted]
    rw [e] at hd
    rw [occL_hit (by omega) hf (by rw [hl]; simp [dots] <;> omega) (by rw [hd]; rfl)]
    simp only [cutsAt]
    have d3 : l.drop (i + 3) = c :: (dots ++ dotted r) := by
      rw [← List.drop_drop, hd]; rfl
    have d4 : l.drop (i + 4) = dots ++ dotted r := by
      rw [show i + 4 = (i + 3) + 1 from rfl, ← List.drop_drop, d3]; rfl
    rw [occL_skip (.inl (by simp [dots])), occL_skip (.inl (by simp [dots])), occL_skip (.inr (by
      rw [d3]; intro q
      have : c = 46 := by
        have := congrArg List.head? q
        simpa [dots] using this
      exact hc c (.head _) this))]
    rw [occ_dotted l r (i + 4) (4 * r.length + 4) (i + dots.length) (left - 1) (fun c hc' => hc c (.tail _ hc')) d4 (by omega) rfl (by omega) (by simp [dots])]
theorem dotted_len : ∀ w : List Nat, (dotted w).length = 4 * w.length
  | [] => rfl
  | c :: r => by have := dotted_len r; simp [dotted, dots] at this ⊢; omega
theorem strSub_S (l : List Nat) (i j : Nat) : strSub (S l) i j = S ((l.drop i).take (j - i)) := by
  refine PySem.Str.ext' (Array.toList_inj.mp ?_)
  rw [strSub_toList]
theorem parts_tail (l : List Nat) : ∀ (r : List Nat) (c i : Nat), l.drop i = c :: (dots ++ dotted r) → l.length = i + 4 + 4 * r.length → partsFrom (S l) 3 i (cutsAt (i + 1) r) = S [c] :: ((r.map fun c => S [c]) ++ [S []])
  | [], c, i, hd, hl => by
    simp only [cutsAt, partsFrom, List.map_nil, List.nil_append]
    have d4 : l.drop (i + 4) = [] := List.drop_eq_nil_of_le (by rw [hl]; simp)
    rw [strSub_S, strSub_S, hd, show i + 1 + 3 = i + 4 from rfl, d4]
    simp
  | c' :: r, c, i, hd, hl => by
    rw [List.length_cons] at hl
    have e : dotted (c' :: r) = c' :: (dots ++ dotted r) := by simp [dotted]
    rw [e] at hd
    have d4 : l.drop (i + 4) = c' :: (dots ++ dotted r) := by
      rw [← List.drop_drop, hd]; rfl
    have ih := parts_tail l r c' (i + 4) d4 (by omega)
    simp only [cutsAt, partsFrom, List.map_cons, List.cons_append]
    rw [strSub_S, hd, show i + 1 + 3 = i + 4 from rfl, show i + 1 + 4 = i + 4 + 1 from rfl, ih]
    simp
theorem split_pat (w : List Nat) (hw : w ≠ []) (hc : ∀ c ∈ w, c ≠ 46) : Txt.split (S (patL w)) (S dots) = S [] :: ((w.map fun c => S [c]) ++ [S []]) := by
  have hl : (patL w).length = 3 + 4 * w.length := by simp [patL, hw, dotted_len, dots]; omega
  have hocc : occurrences (S (patL w)) (S dots) 0 (S (patL w)).length ((S (patL w)).length + 1) = cutsAt 0 w := by
    rw [occ_S, S_len]
    refine occ_dotted (patL w) w 0 _ 0 _ hc (by simp [patL, hw]) (by omega) (by omega) (by omega) (Nat.le_refl _)
  unfold Txt.split
  rw [hocc]
  have hk : (decide ((S (patL w)).length < (S dots).length) || decide (Builtin.Str.strKind (S (patL w)) < Builtin.Str.strKind (S dots))) = false := by
    rw [S_len, S_len, hl]
    have h1 : ¬ (3 + 4 * w.length < dots.length) := by simp [dots]
    have h2 : ¬ (Builtin.Str.strKind (S (patL w)) < Builtin.Str.strKind (S dots)) := by
      have : Builtin.Str.strKind (S dots) = 1 := by decide +kernel
      rw [this]; unfold Builtin.Str.strKind; split
      · omega
      · split <;> omega
    simp [h1, h2]
  have hne : (cutsAt 0 w).isEmpty = false := by cases w <;> rfl
  rw [hk, hne]
  simp only [Bool.false_eq_true, if_false]
  rw [partsBetween_eq, S_len]
  obtain ⟨c, r, rfl⟩ : ∃ c r, w = c :: r := by cases w with | nil => exact absurd rfl hw | cons c r => exact ⟨c, r, rfl⟩
  have e : patL (c :: r) = dots ++ (c :: (dots ++ dotted r)) := by simp [patL, dotted]
  rw [List.length_cons] at hl
  have d3 : (patL (c :: r)).drop 3 = c :: (dots ++ dotted r) := by rw [e]; rfl
  have := parts_tail (patL (c :: r)) r c 3 d3 (by omega)
  show partsFrom _ 3 0 (0 :: cutsAt 4 r) = _
  simp only [partsFrom]
  rw [show 0 + 3 = 3 from rfl, this, strSub_S]
  simp
theorem split_nil : Txt.split (S (patL [])) (S dots) = [S [], S [], S []] := by decide +kernel
end
-- find
section
open Builtin Builtin.Str
def Txtfind4 (x y : Str) (i j : Int) : Int := match occurrences x y (fromIndex x.length i) (min (fromIndex x.length j) x.length) 1 with | k :: _ => (k : Int) | [] => -1
theorem gives_find4 (x y : Str) (i j : Int) (t u v r : Tok) : Gives («str.find» ⟨[.str x t, .str y u, .int i v, .int j r], []⟩) (.int (Txtfind4 x y i j)) := by
  show Gives (match occurrences x y (fromIndex x.length i) (min (fromIndex x.length j) x.length) 1 with | k :: _ => retInt k | [] => (do rule "str.find.not-found"; retInt (-1))) _
  unfold Txtfind4
  cases occurrences x y (fromIndex x.length i) (min (fromIndex x.length j) x.length) 1 with
  | nil => exact .rule (.of_eq rfl)
  | cons k _ => exact .of_eq rfl
section
variable {prog : Program} {w : World} {A : Around} {E : Value → Shared → Prop} {s : Shared} {x y : Str} {t u v r : Tok} {i j : Int} {Q : Value → Shared → Prop}
theorem find4 (hq : Q (.int (Txtfind4 x y i j) s.toks) { s with toks := s.toks + 1 }) : wpAny (model prog w) A (call (.builtin "str.find") [.str x t, .str y u, .int i v, .int j r]) Q E s :=
  call_gives F.slot_str_find (typeIs_str _ _ _) F.entry_str_find (F.args_str_find_4 _ _ _ _) (gives_find4 x y i j t u v r) hq
end
/-- where a text of one sign, or of none, is found from a place on -/
theorem find4_nil (q : List Nat) (pos : Nat) (h : pos ≤ q.length) : Txtfind4 (S q) (S []) pos (q.length : Nat) = pos := by
  have e1 : fromIndex (S q).length (pos : Int) = pos := by unfold fromIndex; rw [S_len]; split <;> omega
  have e2 : min (fromIndex (S q).length ((q.length : Nat) : Int)) (S q).length = q.length := by unfold fromIndex; rw [S_len]; split <;> omega
  unfold Txtfind4
  rw [e1, e2, occ_S]
  obtain ⟨n, hn⟩ : ∃ n, q.length + 1 - pos = n + 1 := ⟨q.length - pos, by omega⟩
  rw [hn, occL_hit (by omega) (Nat.le_refl _) (by simpa using h) (by simp)]
theorem occL_zero (l b : List Nat) (hi : Nat) : ∀ (n i free : Nat), occL l b hi n i free 0 = []
  | 0, _, _ => rfl
  | n + 1, i, free => by rw [occL, if_neg (by omega)]; exact occL_zero l b hi n _ _
theorem occL_one (q : List Nat) (c : Nat) : ∀ (n i free : Nat), i + n = q.length + 1 → free ≤ i →
    (occL q [c] q.length n i free 1 = [] ∧ ∀ rest : List Nat, (c :: rest).isSublist (q.drop i) = false) ∨
    ∃ k, occL q [c] q.length n i free 1 = [k] ∧ i ≤ k ∧ k < q.length ∧ ∀ rest : List Nat, (c :: rest).isSublist (q.drop i) = rest.isSublist (q.drop (k + 1))
  | 0, i, free, h, hf => by
    have : q.drop i = [] := List.drop_eq_nil_of_le (by omega)
    rw [this]
    exact .inl ⟨rfl, fun _ => rfl⟩
  | n + 1, i, free, h, hf => by
    by_cases hi : i < q.length
    · have hd : q.drop i = q[i] :: q.drop (i + 1) := List.drop_eq_getElem_cons hi
      by_cases hc : q[i] = c
      · refine .inr ⟨i, ?_, Nat.le_refl _, hi, fun rest => ?_⟩
        · rw [occL_hit (by omega) hf (by show i + 1 ≤ q.length; omega) (by rw [hd, hc]; rfl), occL_zero]
        · rw [hd, hc]; simp [List.isSublist]
      · have hs : ∀ rest : List Nat, (c :: rest).isSublist (q.drop i) = (c :: rest).isSublist (q.drop (i + 1)) := fun rest => by
          rw [hd]; simp [List.isSublist, Ne.symm hc]
        rw [occL_skip (.inr (by rw [hd]; intro e; exact hc (List.cons.inj e).1))]
        rcases occL_one q c n (i + 1) free (by omega) (by omega) with ⟨h1, h2⟩ | ⟨k, h1, h2, h3, h4⟩
        · exact .inl ⟨h1, fun rest => (hs rest).trans (h2 rest)⟩
        · exact .inr ⟨k, h1, by omega, h3, fun rest => (hs rest).trans (h4 rest)⟩
    · have hd : q.drop i = [] := List.drop_eq_nil_of_le (by omega)
      have hd1 : q.drop (i + 1) = [] := List.drop_eq_nil_of_le (by omega)
      rw [occL_skip (.inr (by rw [hd]; simp))]
      rcases occL_one q c n (i + 1) free (by omega) (by omega) with ⟨h1, h2⟩ | ⟨k, h1, h2, h3, h4⟩
      · rw [hd]; exact .inl ⟨h1, fun _ => rfl⟩
      · omega
theorem find4_one (q : List Nat) (c pos : Nat) (h : pos ≤ q.length) :
    (Txtfind4 (S q) (S [c]) pos (q.length : Nat) = -1 ∧ ∀ rest : List Nat, (c :: rest).isSublist (q.drop pos) = false) ∨
    ∃ k : Nat, Txtfind4 (S q) (S [c]) pos (q.length : Nat) = k ∧ pos ≤ k ∧ k < q.length ∧ ∀ rest : List Nat, (c :: rest).isSublist (q.drop pos) = rest.isSublist (q.drop (k + 1)) := by
  have e1 : fromIndex (S q).length (pos : Int) = pos := by unfold fromIndex; rw [S_len]; split <;> omega
  have e2 : min (fromIndex (S q).length ((q.length : Nat) : Int)) (S q).length = q.length := by unfold fromIndex; rw [S_len]; split <;> omega
  unfold Txtfind4
  rw [e1, e2, occ_S]
  rcases occL_one q c (q.length + 1 - pos) pos pos (by omega) (Nat.le_refl _) with ⟨h1, h2⟩ | ⟨k, h1, h2, h3, h4⟩
  · rw [h1]; exact .inl ⟨rfl, h2⟩
  · rw [h1]; exact .inr ⟨k, rfl, h2, h3, h4⟩
def partsL (w : List Nat) : List (List Nat) := [] :: ((if w = [] then [[]] else w.map fun c => [c]) ++ [[]])
theorem parts_at (w : List Nat) {i : Nat} {part : List Nat} (h : (partsL w)[i]? = some part) : part = [] ∨ ∃ c, part = [c] := by
  have hm := List.mem_of_getElem? h
  unfold partsL at hm
  split at hm
  · simp at hm; exact .inl hm
  · simp at hm
    rcases hm with h | ⟨c, _, h⟩ | h
    · exact .inl h
    · exact .inr ⟨c, h.symm⟩
    · exact .inl h
theorem map_one_flat : ∀ w : List Nat, (w.map fun c => [c]).flatten = w
  | [] => rfl
  | c :: r => by rw [List.map_cons, List.flatten_cons, map_one_flat r]; rfl
theorem parts_flat (w : List Nat) : (partsL w).flatten = w := by
  unfold partsL
  split
  · rename_i h; subst h; rfl
  · rw [List.flatten_cons, List.flatten_append, map_one_flat]; simp
end
-- ell
theorem dots_str : Str.ofString "..." = S dots := by decide +kernel
theorem split_parts (w : List Nat) (hc : ∀ c ∈ w, c ≠ 46) : Txt.split (S (patL w)) (Str.ofString "...") = (partsL w).map S := by
  rw [dots_str]
  by_cases hw : w = []
  · subst hw; rw [split_nil]; simp [partsL]
  · rw [split_pat w hw hc]; simp [partsL, hw]
theorem parts_last (w : List Nat) : ((partsL w).map S).getD (-1 + (((partsL w).map S).length : Int)).toNat Str.empty = S [] := by
  have e : (partsL w).map S = (S [] :: (if w = [] then [[]] else w.map fun c => [c]).map S) ++ [S []] := by simp [partsL]
  rw [e]
  generalize (S [] :: (if w = [] then [[]] else w.map fun c => [c]).map S) = X
  have e : (-1 + (((X ++ [S []]).length : Nat) : Int)).toNat = X.length := by simp; omega
  rw [e]; simp
theorem pat_has (w : List Nat) : (Builtin.Str.occurrences (S (patL w)) (Str.ofString "...") 0 (S (patL w)).length 1).isEmpty = false := by
  have := (StrLaws.found_iff (S (patL w)) (Str.ofString "...")).mpr ⟨0, by
    rw [dots_str, S_len, S_len]
    by_cases hw : w = [] <;> simp [patL, hw, dots], by
    rw [dots_str, subAt_S]
    by_cases hw : w = [] <;> simp [patL, hw, dots]⟩
  simpa using this
section
variable {w : World} {d u : Nat} {fr : Option (List Env)} {gs : Option (List Code)} {E : Value → Shared → Prop} {s : Shared} {p : Program} {loose : List Str} {mg mb : Str → Option Value} {Q : Value → Shared → Prop}
theorem ell_ok {wd q : List Nat} {t0 t1 : Tok} (S0 : Std w p loose mg mb s.heap) (hroom : d < recursionLimit) (hc : ∀ c ∈ wd, c ≠ 46) (hl : (S (patL wd)).length ≤ 1000) (hl2 : (S q).length ≤ 1000)
    (k : ∀ h' tk, Keep s.heap h' → Q (.bool (wd.isSublist q)) { s with heap := h', toks := tk }) :
    wpAny (model prog w) (Ar d fr gs u) (call (.ref 63) [.str (S (patL wd)) t0, .str (S q) t1] []) Q E s := by
  walk_at "my enter"
  have hsp := split_parts wd hc
  have hhas := pat_has wd
  generalize S (patL wd) = want at *
  iterate 8 walk_at "my step"
  refine PySem.W.ite_pos (by rw [hhas]; rfl) ?_
  iterate 12 walk_at "my step"
  rename List (Str × Tok) => l
  rename List.map _ l = Txt.split _ _ => hk
  rename (∀ a, a ∈ List.map _ l → _) => hle
  have hk2 : l.map (fun x => x.1) = (partsL wd).map S := hk.trans hsp
  have hn2 : (2 : Int) ≤ (l.length : Nat) := by
    have := congrArg List.length hk2
    simp only [List.length_map, partsL, List.length_cons, List.length_append, List.length_nil] at this
    omega
  have h0 : ∀ y, (l.map (fun x => x.1))[Int.toNat 0]? = some y → y = S [] := fun y hy => by
    rw [hk2] at hy
    simp [partsL] at hy
    exact hy.symm
  have h1 : (l.map (fun x => x.1)).getD (-1 + ((l.map (fun x => x.1)).length : Int)).toNat Str.empty = S [] := by
    rw [hk.trans hsp]; exact parts_last wd
  repeat' walk_at "my step"
  rename (List.map _ l)[Int.toNat 0]? = some _ => hy
  have hy' := h0 _ hy
  subst hy'
  refine truthy_S (by simp) ?_
  refine PySem.W.ite_neg (by simp) ?_
  repeat' walk_at "my step"
  rw [h1]
  refine truthy_S (by simp) ?_
  refine PySem.W.ite_neg (by simp) ?_
  repeat' walk_at "my step"
  refine wpAny_For ?_ (by intro _; rfl)
  repeat' walk_at "my step"
  rename Fr _ _ _ _ => F
  rename News _ _ _ _ => N
  have hmemN := fun p hp => N p hp
  have hL := (N _ (List.Mem.tail _ (List.Mem.head _))).2.1
  have hIs := News.isList N (List.Mem.tail _ (List.Mem.head _))
  have hpsz : (partsL wd).length = l.length := by have := congrArg List.length (hk.trans hsp); simpa using this.symm
  refine iter_list (nx := []) (fun i m nx => nx = [] ∧ ∃ (pos : Nat) (ta tb tc : Tok), m (Str.ofString "startpos") = some (.int pos ta) ∧ m (Str.ofString "got") = some (.str (S q) tb) ∧ m (Str.ofString "endpos") = some (.int ((S q).length : Nat) tc) ∧ pos ≤ q.length ∧
      wd.isSublist q = ((partsL wd).drop i).flatten.isSublist (q.drop pos)) rfl hIs hL (fun p hp => nomatch hp) F (fun p hp => nomatch hp) ⟨rfl, 0, _, _, _, rfl, rfl, rfl, Nat.zero_le _, by rw [List.drop_zero, parts_flat, List.drop_zero]⟩ ?_ ?_ PassesOwn.never
  · rintro i v hv m₁ nx₁ h tk own ap ⟨rfl, pos, ta, tb, tc, e1, e2, e3, hp, hm⟩ F N
    obtain ⟨part, tp, hpart, rfl⟩ : ∃ part tp, (partsL wd)[i]? = some part ∧ v = .str (S part) tp := by
      have hv' : (l.map fun p => (Value.str p.1 p.2))[i]? = some v := by simpa [strValues] using hv
      rw [List.getElem?_map] at hv'
      cases hl : l[i]? with
      | none => rw [hl] at hv'; cases hv'
      | some pr =>
        rw [hl] at hv'
        have h2 := congrArg (fun x => x[i]?) (hk.trans hsp)
        simp only [List.getElem?_map, hl, Option.map_some] at h2
        cases hq : (partsL wd)[i]? with
        | none => rw [hq] at h2; cases h2
        | some part =>
          rw [hq] at h2
          refine ⟨part, pr.2, rfl, ?_⟩
          cases hv'
          exact congrArg (fun x => Value.str x pr.2) (Option.some.inj h2)
    replace F := reveal3 F e1 e2 e3
    have hd : ((partsL wd).drop i).flatten = part ++ ((partsL wd).drop (i + 1)).flatten := by
      rw [List.drop_eq_getElem?_toList_append, hpart]; simp
    rw [hd] at hm
    repeat' walk_at "my step"
    refine find4 ?_
    simp only [S_len]
    rcases parts_at wd hpart with rfl | ⟨c, rfl⟩
    · rw [find4_nil q pos hp]
      rw [List.nil_append] at hm
      repeat' walk_at "my step"
      refine TEnd.mk (nx := []) (by assumption) (by assumption) (fun p hp => nomatch hp) (by walk_at "my own") Apart.nil ?_
      refine ⟨rfl, pos, ?t1, ?t2, ?t3, ?a, ?b, ?c, hp, hm⟩
      case b => exact rfl
      case c => exact rfl
      case a => exact (congrArg (fun z : Int => some (Value.int z _)) (show (pos : Int) + (([] : List Nat).length : Nat) = pos by simp))
    · rcases find4_one q c pos hp with ⟨hK, hs⟩ | ⟨kk, hK, hk1, hk3, hs⟩
      · rw [hK]
        rw [List.singleton_append, hs] at hm
        repeat' walk_at "my step"
        have k' := k
        rw [hm] at k'
        exact k' _ _ (Fr.keep (by assumption))
      · rw [hK]
        rw [List.singleton_append, hs] at hm
        repeat' walk_at "my step"
        refine TEnd.mk (nx := []) (by assumption) (by assumption) (fun p hp => nomatch hp) (by walk_at "my own") Apart.nil ?_
        refine ⟨rfl, kk + 1, ?t4, ?t5, ?t6, ?a1, ?b1, ?c1, hk3, hm⟩
        case b1 => exact rfl
        case c1 => exact rfl
        case a1 => exact (congrArg (fun z : Int => some (Value.int z _)) (show (kk : Int) + (([c] : List Nat).length : Nat) = ((kk + 1 : Nat) : Int) by simp))
  · rintro m₁ nx₁ h tk ⟨rfl, pos, ta, tb, tc, e1, e2, e3, hp, hm⟩ F N
    repeat' walk_at "my step"
    have e : wd.isSublist q = true := by
      rw [hm, List.drop_eq_nil_of_le (by simp [hpsz, strValues])]; simp
    have k' := k
    rw [e] at k'
    exact k' _ _ (Fr.keep (by assumption))
end
-- takes
/-- a list of texts -/
def TextsAre (vs : List Value) (ws : List (List Nat)) : Prop := ∃ l : List (List Nat × Tok), vs = (l.map fun p => Value.str (S p.1) p.2) ∧ l.map (·.1) = ws
def TextsAt (h : Heap) (a : Addr) (ws : List (List Nat)) : Prop := ∃ vs : List Value, h.IsList a vs.toArray ∧ TextsAre vs ws
theorem TextsAt.keep {h h' : Heap} {a : Addr} {ws : List (List Nat)} (T : TextsAt h a ws) (k : Keep h h') : TextsAt h' a ws :=
  let ⟨vs, hl, t⟩ := T; ⟨vs, hl.at fun o e => k a o e, t⟩
theorem TextsAre.len {vs : List Value} {ws : List (List Nat)} (T : TextsAre vs ws) : vs.length = ws.length := by
  obtain ⟨l, rfl, rfl⟩ := T; simp
theorem TextsAre.get {vs : List Value} {ws : List (List Nat)} (T : TextsAre vs ws) {i : Nat} {v : Value} (h : vs[i]? = some v) : ∃ x t, ws[i]? = some x ∧ v = .str (S x) t := by
  obtain ⟨l, rfl, rfl⟩ := T
  rw [List.getElem?_map] at h
  cases hl : l[i]? with
  | none => rw [hl] at h; cases h
  | some pr =>
    rw [hl] at h
    cases h
    exact ⟨pr.1, pr.2, by simp [hl], rfl⟩
theorem list_ne_frame {h : Heap} {a : Addr} {items : Array Value} (hl : h.IsList a items) : a ≠ h.objs.size := by
  obtain ⟨o, ho, _⟩ := hl; exact Nat.ne_of_lt (Heap.lt_size ho)
theorem signs_S (x : List Nat) : PyProof.Rows.signs (S x) = x.map fun c => S [c] := by simp [PyProof.Rows.signs]
theorem join_dots : ∀ (x : List Nat), x ≠ [] → Str.join (S dots) (x.map fun c => S [c]) ++ S dots = S (dotted x)
  | [c], _ => by simp only [List.map_cons, List.map_nil, Str.join]; rw [S_add]; simp [dotted]
  | c :: c' :: r, _ => by
    have ih := join_dots (c' :: r) (by simp)
    simp only [List.map_cons, Str.join] at ih ⊢
    rw [PySem.Str.append_assoc, ih, S_add, S_add]
    simp [dotted]
theorem join_pat (x : List Nat) : Str.ofString "..." ++ Txt.join (Str.ofString "...") (PyProof.Rows.signs (S x)) ++ Str.ofString "..." = S (patL x) := by
  rw [dots_str, signs_S]
  show S dots ++ Builtin.Str.glued (S dots) (x.map fun c => S [c]) ++ S dots = _
  rw [StrLaws.glued_eq_join]
  by_cases hx : x = []
  · subst hx; decide +kernel
  · rw [PySem.Str.append_assoc, join_dots x hx, S_add]; simp [patL, hx]
theorem joinOk_signs_S (x : List Nat) (h : x.length ≤ 100) : JoinOk (Str.ofString "...") (PyProof.Rows.signs (S x)) = true := by
  rw [dots_str, signs_S]
  unfold JoinOk
  rw [Bool.not_eq_true']
  refine StrLaws.joinFits (B := 1) (fun y hy => ?_) ?_
  · obtain ⟨c, _, rfl⟩ := List.mem_map.mp hy; rw [S_len]; simp
  · rw [S_len]; simp [dots]; omega
theorem pat_len (x : List Nat) (h : x.length ≤ 100) : (S (patL x)).length ≤ 1000 := by
  rw [S_len]
  unfold patL
  split
  · decide
  · rw [List.length_append, dotted_len]; simp [dots]; omega
def takesL (ws : List (List Nat)) (q : List Nat) : Bool := ws.any fun x => x.isSublist q
section
variable {w : World} {d u : Nat} {fr : Option (List Env)} {gs : Option (List Code)} {E : Value → Shared → Prop} {s : Shared} {p : Program} {loose : List Str} {mg mb : Str → Option Value} {Q : Value → Shared → Prop}
theorem takes_ok {ws : List (List Nat)} {q : List Nat} {a : Addr} {t1 : Tok} (S0 : Std w p loose mg mb s.heap) (hroom : d + 1 < recursionLimit) (T : TextsAt s.heap a ws) (hc : ∀ x ∈ ws, x.length ≤ 100 ∧ ∀ c ∈ x, c ≠ 46) (hl2 : (S q).length ≤ 1000)
    (k : ∀ h' tk, Keep s.heap h' → Q (.bool (takesL ws q)) { s with heap := h', toks := tk }) :
    wpAny (model prog w) (Ar d fr gs u) (call (.ref 132) [.ref a, .str (S q) t1] []) Q E s := by
  obtain ⟨vs, hl, tx⟩ := T
  have hroom' : d < recursionLimit := by omega
  walk_at "my enter"
  repeat' walk_at "my step"
  refine wpAny_For ?_ (by intro _; rfl)
  repeat' walk_at "my step"
  rename Fr _ _ _ _ => F
  refine iter_list (nx := []) (fun i m nx => nx = [] ∧ ∃ tb, m (Str.ofString "text") = some (.str (S q) tb) ∧ takesL (ws.take i) q = false) rfl (hl.at fun o e => F.keep a o e) (list_ne_frame hl) (fun p hp => nomatch hp) F (fun p hp => nomatch hp) ⟨rfl, _, rfl, by simp [takesL]⟩ ?_ ?_ PassesOwn.never
  · rintro i v hv m₁ nx₁ h tk own ap ⟨rfl, tb, e1, hm⟩ F N
    obtain ⟨x, tx', hx, rfl⟩ := tx.get (by simpa using hv)
    replace F := reveal F e1
    repeat' walk_at "my step"
    have hxm := hc x (List.mem_of_getElem? hx)
    refine SC.joinStr rfl (joinOk_signs_S x hxm.1) (fun h2 k2 t2 hk2 => ?_)
    (rename Fr _ _ _ _ => F2; replace F2 := F2.after hk2)
    (rename News _ _ _ _ => N2; replace N2 := News.keepsAll N2 hk2)
    have hj := join_pat x
    have hsz1 : (Str.ofString "...").length + (Txt.join (Str.ofString "...") (PyProof.Rows.signs (S x))).length ≤ sizeLine := by
      have := pat_len x hxm.1; rw [← hj, PySem.Str.length_append, PySem.Str.length_append] at this; rw [sizeLine_eq]; omega
    have hsz2 : (Str.ofString "..." ++ Txt.join (Str.ofString "...") (PyProof.Rows.signs (S x))).length + (Str.ofString "...").length ≤ sizeLine := by
      have := pat_len x hxm.1; rw [← hj, PySem.Str.length_append] at this; rw [sizeLine_eq]; omega
    repeat' walk_at "my step"
    rw [hj]
    refine ell_ok (S0.keep (Fr.keep (by assumption))) hroom hxm.2 (pat_len x hxm.1) hl2 (fun h3 tk3 hk3 => ?_)
    (rename Fr _ _ _ _ => F3; replace F3 := F3.after hk3)
    (rename News _ _ _ _ => N3; replace N3 := News.keepsAll N3 hk3)
    repeat' walk_at "my step"
    · have e : x.isSublist q = true := by first | assumption | simp_all
      have e2 : takesL ws q = true := List.any_eq_true.mpr ⟨x, List.mem_of_getElem? hx, e⟩
      have k' := k
      rw [e2] at k'
      rw [e]
      exact k' _ _ (Fr.keep (by assumption))
    · have e : x.isSublist q = false := by first | assumption | simp_all
      refine TEnd.mk (nx := []) (by assumption) (by assumption) (fun p hp => nomatch hp) (by walk_at "my own") Apart.nil ?_
      refine ⟨rfl, ?zt1, ?za, ?zb⟩
      case za => exact rfl
      case zb => unfold takesL at hm ⊢; rw [List.take_add_one, hx, List.any_append, hm]; simpa using e
  · rintro m₁ nx₁ h tk ⟨rfl, tb, e1, hm⟩ F N
    repeat' walk_at "my step"
    have e : takesL ws q = false := by
      rw [← hm, List.take_of_length_le (by simp [tx.len])]
    have k' := k
    rw [e] at k'
    exact k' _ _ (Fr.keep (by assumption))
end
-- slices
open StrLaws in
theorem slice_take (l : List Nat) (k : Nat) : Txt.slice (S l) none (some (k : Int)) = S (l.take k) := by
  by_cases h : k ≤ l.length
  · have := sliceText_to (x := S l) (j := (k : Int)) ⟨by omega, by simpa using h⟩
    rw [show Txt.slice (S l) none (some (k : Int)) = sliceText (S l) none (some (k : Int)) from rfl, this]
    simp
  · have e : Builtin.Str.strSliceIndices none (some (k : Int)) 1 (S l).length = Builtin.Str.strSliceIndices none (some ((S l).length : Int)) 1 (S l).length := by
      rw [S_len]
      unfold Builtin.Str.strSliceIndices
      have a : ¬ ((k : Int) < 0) := by omega
      have b : ¬ ((l.length : Int) < 0) := by omega
      have c : min (k : Int) (l.length : Int) = l.length := by omega
      simp [a, b, c]
    have := sliceText_to (x := S l) (j := ((S l).length : Int)) ⟨by omega, by simp [S_len]⟩
    have e2 : Txt.slice (S l) none (some (k : Int)) = sliceText (S l) none (some ((S l).length : Int)) := by
      unfold Txt.slice sliceText; rw [e]
    rw [e2, this, List.take_of_length_le (show l.length ≤ k by omega)]
    simp [S_len]
open StrLaws in
theorem slice_drop (l : List Nat) (k : Nat) : Txt.slice (S l) (some (k : Int)) none = S (l.drop k) := by
  by_cases h : k ≤ l.length
  · have := sliceText_from (x := S l) (i := (k : Int)) ⟨by omega, by simpa using h⟩
    rw [show Txt.slice (S l) (some (k : Int)) none = sliceText (S l) (some (k : Int)) none from rfl, this]
    refine congrArg (fun x : List Nat => (⟨x.toArray⟩ : Str)) ?_
    exact List.take_of_length_le (by simp)
  · have e : Builtin.Str.strSliceIndices (some (k : Int)) none 1 (S l).length = Builtin.Str.strSliceIndices (some ((S l).length : Int)) none 1 (S l).length := by
      rw [S_len]
      unfold Builtin.Str.strSliceIndices
      have a : ¬ ((k : Int) < 0) := by omega
      have b : ¬ ((l.length : Int) < 0) := by omega
      have c : min (k : Int) (l.length : Int) = l.length := by omega
      simp [a, b, c]
    have := sliceText_from (x := S l) (i := ((S l).length : Int)) ⟨by omega, by simp [S_len]⟩
    have e2 : Txt.slice (S l) (some (k : Int)) none = sliceText (S l) (some ((S l).length : Int)) none := by
      unfold Txt.slice sliceText; rw [e]
    rw [e2, this, List.drop_eq_nil_of_le (show l.length ≤ k by omega)]
    simp [S_len]
open StrLaws in
theorem slice_last (l : List Nat) : Txt.slice (S l) (some (-1)) none = S (l.drop (l.length - 1)) := by
  by_cases h : l = []
  · subst h; decide +kernel
  · have hl : 0 < l.length := List.length_pos_iff.mpr h
    have e : Txt.slice (S l) (some (-1)) none = sliceText (S l) (some (-1 + ((S l).length : Int))) none :=
      sliceText_neg_lo (S l) none (by omega) (by rw [S_len]; omega)
    rw [e, S_len, show (-1 + (l.length : Int)) = ((l.length - 1 : Nat) : Int) by omega]
    exact slice_drop l (l.length - 1)
open StrLaws in
theorem slice_init (l : List Nat) : Txt.slice (S l) none (some (-1)) = S l.dropLast := by
  by_cases h : l = []
  · subst h; decide +kernel
  · have hl : 0 < l.length := List.length_pos_iff.mpr h
    have e : Txt.slice (S l) none (some (-1)) = sliceText (S l) none (some (-1 + ((S l).length : Int))) :=
      sliceText_neg_hi (S l) none (by omega) (by rw [S_len]; omega)
    rw [e, S_len, show (-1 + (l.length : Int)) = ((l.length - 1 : Nat) : Int) by omega, List.dropLast_eq_take]
    exact slice_take l (l.length - 1)
theorem slice_rev (l : List Nat) (u : Tok) : Txt.sliceBy (S l) none none (-1, u) = S l.reverse := by
  refine PySem.Str.ext' (Array.toList_inj.mp ?_)
  rw [PyProof.Rows.step_rev_list]
  apply List.ext_getElem
  · simp [S_len]
  · intro i h1 h2
    simp only [List.getElem_map, List.getElem_range, S_len]
    simp at h2
    rw [List.getElem_reverse]
    have : l.length - 1 - i < l.length := by omega
    simp [Array.getD, this]
theorem last_one (l : List Nat) (c : Nat) : (S (l.drop (l.length - 1)) == S [c]) = decide (l.getLast? = some c) := by
  rw [S_beq]
  congr 1
  by_cases h : l = []
  · subst h; simp
  · have hl : 0 < l.length := List.length_pos_iff.mpr h
    have e : l.drop (l.length - 1) = [l.getLast h] := by
      have hd := List.drop_eq_getElem_cons (l := l) (i := l.length - 1) (by omega)
      rw [hd, List.drop_eq_nil_of_le (by omega), ← List.getLast_eq_getElem h]
    rw [List.getLast?_eq_some_getLast h, e]; simp
-- back
def stripL (c : Nat) (w : List Nat) : List Nat := if w.getLast? = some c then w.dropLast else w
theorem strip_len (c : Nat) (w : List Nat) : (stripL c w).length ≤ w.length := by unfold stripL; split <;> simp
theorem strips_len (c : Nat) (w : List Nat) : ∀ n, (Nat.repeat (stripL c) n w).length ≤ w.length
  | 0 => Nat.le_refl _
  | n + 1 => Nat.le_trans (strip_len c _) (strips_len c w n)
def swapL (one two : Nat) (c : Nat) : Nat := if c = one then two else one
def backL (one two : Nat) (kind : Nat) (c : Nat) (w : List Nat) : List Nat :=
  match kind with
  | 0 => stripL c w
  | 1 => stripL c (stripL c w)
  | 2 => c :: w
  | 3 => c :: c :: w
  | 4 => w.reverse
  | 5 => w.map (swapL one two)
  | 6 => halvedL w
  | _ => w
theorem mulOk_one (c : Nat) : MulOk (S [c]) 1 := ⟨by decide, fun _ h => by simp at h, fun _ h => by simp at h⟩
theorem mulOk_two (c : Nat) : MulOk (S [c]) 2 := ⟨by decide, fun _ _ => by show ¬ (((1 : Nat) : Int) > (2 ^ 63 - 1) / 2); decide, fun _ _ => by show Builtin.Str.tooLong (1 * 2) = false; decide +kernel⟩
theorem find_pair {one two a : Nat} (h12 : one ≠ two) (ha : a = one ∨ a = two) :
    ∃ i : Nat, i ≤ 1 ∧ Txt.find (S [one, two]) ⟨#[a]⟩ = (i : Int) ∧ Builtin.Str.occurrences (S [one, two]) ⟨#[a]⟩ 0 (S [one, two]).length 1 = [i] ∧ [one, two][1 - i]? = some (swapL one two a) := by
  have hfd : ∀ i : Nat, Builtin.Str.occurrences (S [one, two]) ⟨#[a]⟩ 0 (S [one, two]).length 1 = [i] → Txt.find (S [one, two]) ⟨#[a]⟩ = (i : Int) := fun i h => by
    unfold Txt.find; rw [h]
  have ho : Builtin.Str.occurrences (S [one, two]) ⟨#[a]⟩ 0 (S [one, two]).length 1 = occL [one, two] [a] 2 3 0 0 1 := occ_S [one, two] [a] 0 2 1
  rcases ha with rfl | rfl
  · have h : occL [a, two] [a] 2 3 0 0 1 = [0] := by simp [occL]
    exact ⟨0, by omega, hfd 0 (ho.trans h), ho.trans h, by simp [swapL]⟩
  · have h : occL [one, a] [a] 2 3 0 0 1 = [1] := by simp [occL, h12]
    exact ⟨1, by omega, hfd 1 (ho.trans h), ho.trans h, by simp [swapL, Ne.symm h12]⟩
theorem swap_all {one two : Nat} : ∀ {ys vs : List Value} {wd : List Nat}, vs.length = wd.length → (∀ (j : Nat) (v : Value), vs[j]? = some v → ∃ c u, wd[j]? = some c ∧ v = .str ⟨#[c]⟩ u) →
    Paired (fun v y : Value => ∃ a tv ty, v = .str ⟨#[a]⟩ tv ∧ y = .str (S [swapL one two a]) ty) vs ys → StrsAre ys (wd.map fun c => S [swapL one two c])
  | _, _, [], hl, _, P => by
    cases P with
    | nil => exact .nil
    | cons => simp at hl
  | _, _, c :: wd, hl, hv, P => by
    cases P with
    | nil => simp at hl
    | cons h P =>
      obtain ⟨a, tv, ty, rfl, rfl⟩ := h
      obtain ⟨c', u, hc, e⟩ := hv 0 _ rfl
      simp at hc e
      obtain ⟨rfl, rfl⟩ := e
      subst hc
      exact .cons _ _ (swap_all (by simpa using hl) (fun j v e => hv (j + 1) v (by simpa using e)) P)
theorem sum_ones (f : Nat → Nat) : ∀ wd : List Nat, (List.map (·.length) (List.map (fun c => S [f c]) wd)).sum = wd.length
  | [] => rfl
  | c :: r => by
    have := sum_ones f r
    simp only [List.map_cons, List.sum_cons, this, S_len]
    simp; omega
theorem join_signs (l : List Nat) : Txt.join (S []) (l.map fun c => S [c]) = S l := by
  show Builtin.Str.glued (S []) (l.map fun c => S [c]) = _
  rw [StrLaws.glued_eq_join]
  induction l with
  | nil => rfl
  | cons c r ih =>
    cases r with
    | nil => rfl
    | cons c' r => simp only [List.map_cons, Str.join] at ih ⊢; rw [ih, S_add, S_add]; rfl
theorem item_S {w : World} {A : Around} {E : Value → Shared → Prop} {s : Shared} {value slice : Expr} {l : List Nat} {i c : Nat} {t u : Tok} {Q : Value → Shared → Prop} (hi : l[i]? = some c) (hl : l.length ≤ 16777216)
    (h : Q (.str (S [c]) s.toks) { s with toks := s.toks + 1 })
    (hs : subscripted slice false (.str (S l) t) (.int (i : Nat) u) = operate [.str (S l) t, .int (i : Nat) u] (getItem (.str (S l) t) (.int (i : Nat) u)) := by with_unfolding_all rfl)
    (ht : ∀ r, letTemporaryGo value (.str (S l) t) r = pure () := by intro _; with_unfolding_all rfl) :
    wpAny (model prog w) A (subscriptTail value slice (.str (S l) t) (.int (i : Nat) u)) Q E s := by
  have hlt : i < l.length := (List.getElem?_eq_some_iff.mp hi).1
  have e : Txt.item (S l) (i : Nat) = S [c] := by
    rw [List.getElem?_eq_getElem hlt] at hi
    cases hi
    have e1 : seqIndex? ((i : Nat) : Int) (S l).length = some i := by
      have h0 : ¬ ((i : Int) < 0) := by omega
      rw [S_len]; unfold seqIndex?; simp [h0, hlt]
    simp [Txt.item, Txt.charAt, e1, hlt]
  exact item_str (fitsSsize_of (N := 9223372036854775808) (by omega) (by omega) (Int.le_refl _)) (by omega) (by rw [S_len]; omega) (fun _ => by rw [e]; exact h) hs ht
section
variable {w : World} {d u : Nat} {fr : Option (List Env)} {gs : Option (List Code)} {E : Value → Shared → Prop} {s : Shared} {p : Program} {loose : List Str} {mg mb : Str → Option Value} {Q : Value → Shared → Prop}
theorem back_ok {kind : Nat} {one two c : Nat} {wd : List Nat} {t0 t1 t2 t3 : Tok} (S0 : Std w p loose mg mb s.heap) (hroom : d + 1 < recursionLimit) (hk8 : kind < 8) (hl : wd.length ≤ 100)
    (h12 : one ≠ two) (hwd : ∀ x ∈ wd, x = one ∨ x = two)
    (k : ∀ h' t tk, Keep s.heap h' → Q (.str (S (backL one two kind c wd)) t) { s with heap := h', toks := tk }) :
    wpAny (model prog w) (Ar d fr gs u) (call (.ref 125) [.int kind t0, .str (S [c]) t1, .str (S [one, two]) t2, .str (S wd) t3] []) Q E s := by
  have hroom' : d < recursionLimit := by omega
  walk_at "my enterC"
  have hlS : (S wd).length ≤ 100 := by rw [S_len]; exact hl
  repeat' walk_at "my stepL"
  · -- a loop
    have hk2 : (kind : Int) < 2 := by assumption
    refine wpAny_For ?_ (by intro _; rfl)
    repeat' walk_at "my stepL"
    rename Fr _ _ _ _ => F
    rename News _ _ _ _ => N
    refine iter_range (nx := []) (fun i m nx => nx = [] ∧ ∃ ta tb, m (Str.ofString "sign") = some (.str (S [c]) ta) ∧ m (Str.ofString "word") = some (.str (S (Nat.repeat (stripL c) i wd)) tb)) rfl (by assumption) (by omega) (by omega) F (fun p hp => nomatch hp) ⟨rfl, _, _, rfl, rfl⟩ ?_ ?_ PassesOwn.never (fun I => goes_name)
    · rintro i ti hi m₁ nx₁ h tk own ap ⟨rfl, ta, tb, e1, e2⟩ F N
      have hw1 := strips_len c wd i
      have e3 : Nat.repeat (stripL c) (i + 1) wd = stripL c (Nat.repeat (stripL c) i wd) := rfl
      generalize Nat.repeat (stripL c) i wd = wi at hw1 e2 e3
      have hlW : (S wi).length ≤ 100 := by rw [S_len]; omega
      replace F := reveal2 F e1 e2
      repeat' walk_at "my stepL"
      · (rename (Txt.slice _ (some (-1)) none == _) = true => hq)
        rw [slice_last, last_one] at hq
        refine TEnd.mk (nx := []) (by assumption) (by assumption) (fun p hp => nomatch hp) (by walk_at "my own") Apart.nil ?_
        refine ⟨rfl, ?zt1, ?zt2, ?za, ?zb⟩
        case za => exact rfl
        case zb => 
          rw [e3]
          have e4 : stripL c wi = wi.dropLast := by unfold stripL; rw [if_pos (by simpa using hq)]
          rw [e4, ← slice_init]; exact rfl
      · (rename (Txt.slice _ (some (-1)) none == _) = false => hq)
        rw [slice_last, last_one] at hq
        refine TEnd.mk (nx := []) (by assumption) (by assumption) (fun p hp => nomatch hp) (by walk_at "my own") Apart.nil ?_
        refine ⟨rfl, ?zt3, ?zt4, ?za1, ?zb1⟩
        case za1 => exact rfl
        case zb1 => 
          rw [e3]
          have e4 : stripL c wi = wi := by unfold stripL; rw [if_neg (by simpa using hq)]
          rw [e4]; exact rfl
    · rintro m₁ nx₁ h tk ⟨rfl, ta, tb, e1, e2⟩ F N
      have e3 : ((kind : Int) + 1).toNat = kind + 1 := by omega
      rw [e3] at e2
      replace F := reveal F e2
      repeat' walk_at "my stepL"
      have e4 : Nat.repeat (stripL c) (kind + 1) wd = backL one two kind c wd := by
        have : kind = 0 ∨ kind = 1 := lt2 (by omega)
        rcases this with rfl | rfl <;> rfl
      rw [e4]
      exact k _ _ _ (Fr.keep (by assumption))
  · -- some signs ahead
    have hk4 : kind = 2 ∨ kind = 3 := by omega
    rcases hk4 with rfl | rfl
    · refine SB.mul (mulOk_one c) ?_
      intro t' k'
      have e : Txt.mul (S [c]) (((2 : Nat) : Int) - 1) = S [c] := rfl
      rw [e]
      repeat' walk_at "my stepL"
      rw [S_add]
      exact k _ _ _ (Fr.keep (by assumption))
    · refine SB.mul (mulOk_two c) ?_
      intro t' k'
      have e : Txt.mul (S [c]) (((3 : Nat) : Int) - 1) = S [c, c] := rfl
      rw [e]
      repeat' walk_at "my stepL"
      rw [S_add]
      exact k _ _ _ (Fr.keep (by assumption))
  · -- turned round
    have e : kind = 4 := by omega
    subst e
    rw [slice_rev]
    exact k _ _ _ (Fr.keep (by assumption))
  · -- exchanged
    refine methodCall_KW ?_
    repeat' walk_at "my stepL"
    refine wpAny_ListComp_free (cl := [(Str.ofString "letters", s.heap.objs.size + 1)]) (fun _ => true) (fun v y => ∃ a tv ty, v = .str ⟨#[a]⟩ tv ∧ y = .str (S [swapL one two a]) ty) rfl (by decide) rfl (by decide) rfl ?_ (by intro _; rfl)
    repeat' walk_at "my stepL"
    rename News _ _ _ _ => N
    rename Fr _ _ _ _ => F
    have hoN := (N _ (List.Mem.head _)).1
    have hcl : ∀ (h : Heap), h.get? (s.heap.objs.size + 1) = some _ → h.IsCell (s.heap.objs.size + 1) (some (.str (S [one, two]) t2)) := fun h e => ⟨_, e, by assumption⟩
    refine wpAny_pyIter_str fun o St hW hst => ⟨_, _, _, _, _, St, rfl, hW _ rfl, ?cs, hst, ?cf, ⟨?ct, ?ce⟩, ?cd⟩
    case cs => show wd.toArray.size ≤ sizeLine; rw [List.size_toArray, sizeLine_eq]; omega
    case cf => intro b hb; rw [List.mem_singleton.mp hb, Heap.size_push]; exact Nat.lt_succ_self _
    case ct => 
      intro C i v s₃ m₃ E' hC hP hn hm hk htk
      exact wpAny_pure ⟨rfl, ⟨s₃.heap, s₃.toks, rfl, fun _ _ e => e⟩⟩
    case ce =>
      rintro C i v s₃ m₃ E' hC ⟨a, ua, ha, rfl⟩ _ hn hm hk htk
      have hc3 := hcl s₃.heap (hk _ _ (by intro hm2; exact absurd (List.mem_singleton.mp hm2) (Nat.ne_of_lt (Heap.lt_size hoN))) (Heap.get?_push_of_some _ hoN))
      obtain ⟨ix, hix, hf, hoc, hsw⟩ := find_pair h12 (hwd a (List.mem_of_getElem? (by simpa using ha)))
      have hpos : ¬ Txt.find (S [one, two]) ⟨#[a]⟩ = -1 := by rw [hf]; omega
      repeat' walk_at "my cstep"
      · exact absurd (by assumption) hpos
      · rw [hf, show (1 : Int) - (ix : Int) = ((1 - ix : Nat) : Int) by omega]
        refine item_S hsw (by show 2 ≤ 16777216; decide) ?_
        exact ⟨⟨a, ua, _, rfl, rfl⟩, s₃.heap, _, rfl, fun _ _ e => e⟩
    case cd => 
      intro D h' tk ys vs hD hIs hpl hlen hP hF hk
      replace F := F.after (h' := h') fun b o e => hk b o (by intro hm2; exact absurd (List.mem_singleton.mp hm2) (Nat.ne_of_lt (Heap.lt_size e))) (Heap.get?_push_of_some _ e)
      have hys := swap_all (one := one) (two := two) (ys := ys.toList) (vs := vs) (wd := wd) (by simpa using hlen) (fun j v e => by obtain ⟨c, u, hc, rfl⟩ := hP j v e; exact ⟨c, u, by simpa using hc, rfl⟩) (by rw [show vs.filter (fun _ => true) = vs from List.filter_eq_self.mpr (fun _ _ => rfl)] at hF; exact hF)
      repeat' walk_at "my stepL"
      refine join_listW hIs hys (by decide) ?_ ?_
      · rw [show (List.map (·.length) (List.map (fun c => S [swapL one two c]) wd)).sum = wd.length by clear hlS hys hIs hlen hP hF; exact sum_ones _ wd, List.length_map]; omega
      intro t' tk'
      have e := join_signs (wd.map (swapL one two))
      rw [List.map_map] at e
      have e5 : kind = 5 := by omega
      subst e5
      rw [show Str.ofString "" = S [] by decide +kernel]
      have e2 : Txt.join (S []) (List.map (fun c => S [swapL one two c]) wd) = S (backL one two 5 c wd) := e
      rw [e2]
      exact k _ _ _ (Fr.keep F)
  · refine halved_ok (S0.keep (Fr.keep (by assumption))) hroom (by omega) ?_
    intro h' t tk hk'
    have e : kind = 6 := by omega
    subst e
    exact k _ _ _ (Keep.trans (Fr.keep (by assumption)) hk')
  · have e : kind = 7 := by omega
    subst e
    exact k _ _ _ (Fr.keep (by assumption))
end
-- indexof
/-- a drawn sign and the number it gets -/
def DrawTok (prog : Program) (w : World) (A : Around) (it : Addr) (nm : String) (x : Str) (t : Tok) : Prop :=
  ∀ (s : Shared) (Q : Value → Shared → Prop) (E : Value → Shared → Prop) (i c : Nat), s.heap.IsStrIter it nm x t i → x.cps[i]? = some c →
    (∀ h', h'.IsStrIter it nm x t (i + 1) → Heap.SameBut it s.heap h' → Q (.str ⟨#[c]⟩ s.toks) { s with heap := h', toks := s.toks + 1 }) → wpAny (model prog w) A (Builtin.SmallTypes.nextOf (.ref it)) Q E s
section
variable {prog : Program} {w : World} {A : Around} {E : Value → Shared → Prop} {s : Shared}
theorem enum_tok {e it : Addr} {nm : String} {x : Str} {t : Tok} {i c : Nat} {old : Value} {Q : Value → Shared → Prop} (DT : DrawTok prog w A it nm x t) (he : IsEnum s.heap e it i old) (hs : s.heap.IsStrIter it nm x t i)
    (hx : x.cps[i]? = some c) (hne : e ≠ it)
    (hQ : ∀ h', IsEnumOut h' e it ((i : Int) + 1) (.str ⟨#[c]⟩ s.toks) s.heap.objs.size → h'.IsStrIter it nm x t (i + 1) →
      h'.get? s.heap.objs.size = some { cls := .type "tuple", data := .seq #[.int i (s.toks + 1), .str ⟨#[c]⟩ s.toks] } →
      (∀ b o, b ≠ e → b ≠ it → s.heap.get? b = some o → h'.get? b = some o) → Q (.ref s.heap.objs.size) { s with heap := h', toks := s.toks + 1 + 1 }) :
    wpAny (model prog w) A (Builtin.«enumerate.__next__» ⟨[.ref e], []⟩) (fun fin s' => ∃ v, fin = .done (.ret v) ∧ Q v s') E s := by
  obtain ⟨hp, g, d, tk, os⟩ := s
  have lt := Heap.lt_size he
  show wpAny _ _ (field (.ref e) 2 >>= _) _ _ _
  refine wpAny_bind (wpAny_field he rfl (x := .ref it) rfl (wpAny_bind (DT _ _ _ i c hs hx fun ha sa ba => ?_)))
  replace ba : Heap.SameBut it hp ha := ba
  have ea : IsEnum ha e it i old := (ba.2 e hne).trans he
  show wpAny _ _ (field (.ref e) 3 >>= _) _ _ ⟨ha, g, d, tk + 1, os⟩
  refine wpAny_bind (wpAny_field ea rfl (x := rawInt i) rfl ?_)
  show wpAny _ _ (field (.ref e) 4 >>= _) _ _ ⟨ha, g, d, tk + 1, os⟩
  refine wpAny_bind (wpAny_field ea rfl (x := .none) rfl ?_)
  show wpAny _ _ (mkInt i >>= _) _ _ ⟨ha, g, d, tk + 1, os⟩
  refine wpAny_bind (wpAny_mkInt ?_)
  show wpAny _ _ (setField (.ref e) 3 (rawInt ((i : Int) + 1)) >>= _) _ _ ⟨ha, g, d, tk + 1 + 1, os⟩
  refine wpAny_bind (wpAny_setField_rec ea (by simp) fun hb eb bb => ?_)
  replace bb : Heap.SameBut e ha hb := bb
  replace eb : IsEnum hb e it ((i : Int) + 1) old := eb
  show wpAny _ _ (setField (.ref e) 4 .none >>= _) _ _ ⟨hb, g, d, tk + 1 + 1, os⟩
  refine wpAny_bind (wpAny_setField_rec eb (by simp) fun hc ec bc => ?_)
  replace bc : Heap.SameBut e hb hc := bc
  replace ec : IsEnum hc e it ((i : Int) + 1) old := ec
  show wpAny _ _ (newTuple [.int i (tk + 1), .str ⟨#[c]⟩ tk] >>= _) _ _ ⟨hc, g, d, tk + 1 + 1, os⟩
  refine wpAny_bind (wpAny_newTuple ?_)
  have size_c : hc.objs.size = hp.objs.size := by rw [bc.1, bb.1, ba.1]
  have up : ∀ b o, b ≠ e → hc.get? b = some o → (hc.push { cls := .type "tuple", data := .seq #[.int i (tk + 1), .str ⟨#[c]⟩ tk] }).get? b = some o := fun b o _ q => Heap.get?_push_of_some _ q
  have old_c : ∀ b o, b ≠ e → b ≠ it → hp.get? b = some o → hc.get? b = some o := fun b o h1 h2 q => (bc.2 b h1).trans ((bb.2 b h1).trans ((ba.2 b h2).trans q))
  have sc : hc.IsStrIter it nm x t (i + 1) := by
    obtain ⟨o, q, r⟩ := sa
    exact ⟨o, (bc.2 it (Ne.symm hne)).trans ((bb.2 it (Ne.symm hne)).trans q), r⟩
  generalize hd : hc.push { cls := .type "tuple", data := .seq #[.int i (tk + 1), .str ⟨#[c]⟩ tk] } = hD at up
  have td : hD.get? hp.objs.size = some { cls := .type "tuple", data := .seq #[.int i (tk + 1), .str ⟨#[c]⟩ tk] } := by
    rw [← hd, ← size_c]; exact Heap.get?_push_size _ rfl
  have ed : IsEnum hD e it ((i : Int) + 1) old := by rw [← hd]; exact Heap.get?_push_of_some _ ec
  rw [size_c]
  show wpAny _ _ (Builtin.SmallTypes.ownedTupleIsFree (.ref e) >>= _) _ _ ⟨hD, g, d, tk + 1 + 1, os⟩
  refine wpAny_bind ?_
  unfold Builtin.SmallTypes.ownedTupleIsFree
  refine wpAny_bind (wpAny_field ed rfl (x := .none) rfl (wpAny_pure ?_))
  simp only [if_true]
  refine wpAny_bind (wpAny_rule ?_)
  refine wpAny_bind (wpAny_field ed rfl (x := old) rfl ?_)
  refine wpAny_bind (wpAny_setField_rec ed (by simp) fun hE eE bE => ?_)
  replace bE : Heap.SameBut e hD hE := bE
  replace eE : IsEnum hE e it ((i : Int) + 1) (.str ⟨#[c]⟩ tk) := eE
  show wpAny _ _ (Builtin.SmallTypes.ownedTupleHandOut (.ref e) (.ref hp.objs.size) >>= _) _ _ ⟨hE, g, d, tk + 1 + 1, os⟩
  refine wpAny_bind ?_
  unfold Builtin.SmallTypes.ownedTupleHandOut
  refine wpAny_bind (wpAny_setField_rec eE (by simp) fun hF eF bF => ?_)
  replace bF : Heap.SameBut e hE hF := bF
  replace eF : IsEnumOut hF e it ((i : Int) + 1) (.str ⟨#[c]⟩ tk) hp.objs.size := eF
  refine wpAny_setField_rec eF (by simp) fun hG eG bG => ?_
  replace bG : Heap.SameBut e hF hG := bG
  replace eG : IsEnumOut hG e it ((i : Int) + 1) (.str ⟨#[c]⟩ tk) hp.objs.size := eG
  have last : ∀ b o, b ≠ e → hD.get? b = some o → hG.get? b = some o := fun b o h1 q => (bG.2 b h1).trans ((bF.2 b h1).trans ((bE.2 b h1).trans q))
  refine wpAny_bind (wpAny_letGo (wpAny_pure ⟨_, rfl, hQ hG eG ?_ (last _ _ (Nat.ne_of_gt lt) td) fun b o h1 h2 q => last b o h1 (up b o h1 (old_c b o h1 h2 q))⟩))
  obtain ⟨o, q, r⟩ := sc
  exact ⟨o, last _ _ (Ne.symm hne) (up _ _ (Ne.symm hne) q), r⟩
theorem pyNext_tok {e it : Addr} {nm : String} {x : Str} {t : Tok} {i c : Nat} {old : Value} {Q : Option Value → Shared → Prop} (DT : DrawTok prog w A.in1 it nm x t) (he : IsEnum s.heap e it i old) (hs : s.heap.IsStrIter it nm x t i)
    (hx : x.cps[i]? = some c) (hne : e ≠ it)
    (hQ : ∀ h', IsEnumOut h' e it ((i : Int) + 1) (.str ⟨#[c]⟩ s.toks) s.heap.objs.size → h'.IsStrIter it nm x t (i + 1) →
      h'.get? s.heap.objs.size = some { cls := .type "tuple", data := .seq #[.int i (s.toks + 1), .str ⟨#[c]⟩ s.toks] } →
      (∀ b o, b ≠ e → b ≠ it → s.heap.get? b = some o → h'.get? b = some o) → Q (some (.ref s.heap.objs.size)) { s with heap := h', toks := s.toks + 1 + 1 }) :
    wpAny (model prog w) A (pyNext (.ref e)) Q E s := by
  have hT : s.TypeIs (.ref e) "enumerate" := ⟨_, he, rfl⟩
  unfold pyNext
  exact wpAny_bind (wpAny_attempt (wpAny_callSpecial?_slot (name := Str.ofString "__next__") hT F.slot_enumerate_next
    (wpAny_call_entry F.slot_enumerate_next hT F.entry_enumerate_next (enum_tok DT he hs hx hne fun h' a b c q => wpAny_pure (hQ h' a b c q)) (F.args_enumerate_next_1 _))))
end
theorem is_str {w : World} {A : Around} {E : Value → Shared → Prop} {s : Shared} {y z : Str} {u v : Tok} {Q : Value → Shared → Prop} (hu : u ≠ 0) (hv : v ≠ 0) (huv : u ≠ v) (hb : NoneBooked s.heap)
    (h : ∀ b : Bool, (b = true → y = z) → Q (.bool b) s) : wpAny (model prog w) A (compareOp .Is (.str y u) (.str z v)) Q E s := by
  show wpAny _ A (do return .bool (← isSame (.str y u) (.str z v))) Q E s
  by_cases hyz : y = z
  · exact wpAny_bind (wpAny_isSame_str (by simp [hu, hv]) hb fun b => wpAny_pure (h b fun _ => hyz))
  · refine wpAny_bind ?_
    rw [isSame_str_other y z u v (by simp [hu, hv]) (by simpa using huv) (by simpa using hyz)]
    exact wpAny_pure (wpAny_pure (h false fun e => nomatch e))
theorem idx_at {c : Nat} : ∀ {q : List Nat} {i : Nat}, c ∉ q.take i → q[i]? = some c → q.idxOf? c = some i
  | [], i, _, h => by simp at h
  | x :: q, 0, _, h => by simp at h; subst h; simp [List.idxOf?, List.findIdx?_cons]
  | x :: q, i + 1, hno, h => by
    simp only [List.take_succ_cons, List.mem_cons, not_or] at hno
    have ih := idx_at (q := q) (i := i) hno.2 (by simpa using h)
    have hx : (x == c) = false := by simpa using fun e => hno.1 e.symm
    unfold List.idxOf? at ih ⊢
    rw [List.findIdx?_cons, hx, ih]; simp
theorem booked {w : World} {h : Heap} {p : Program} {loose : List Str} {mg mb : Str → Option Value} (S : Std w p loose mg mb h) : NoneBooked h := by
  obtain ⟨mc, hn, _⟩ := S.T.nolimit
  exact ⟨mc, hn, ns_none_of S.X hn (by k_is)⟩
section
variable {prog : Program} {w : World} {A : Around} {E : Value → Shared → Prop} {s : Shared} {env : Env} {h₀ : Heap} {Q : Flow → Shared → Prop} {body orelse : List Stmt} {m : Str → Option Value}
theorem for_pair {n0 : Nat} {xi xc : Str} {pk pv pt : Pos} {x1 : Nat} {I : Addr} {fp wr : List Addr} {n : Nat} {Pt : Nat → Array Value → Prop} {St : Nat → Heap → Prop} {Mid : Nat → Addr → Heap → Prop} {P2 : Nat → Value → Value → Prop}
    (J : Nat → (Str → Option Value) → Prop) (hh : A.handled = none) (W : WalksT prog w A I fp wr n Pt St Mid)
    (item : ∀ i (s : Shared) (Q : Option Value → Shared → Prop) (E : Value → Shared → Prop), i < n → n0 ≤ s.toks → St i s.heap →
      (∀ T v0 v1 h' tk, P2 i v0 v1 → n0 ≤ tk → h'.IsTuple T #[v0, v1] → Mid i T h' → (∀ b o, b ∉ wr → s.heap.get? b = some o → h'.get? b = some o) → Q (some (.ref T)) { s with heap := h', toks := tk }) →
      wpAny (model prog w) A (pyNext (.ref I)) Q E s)
    (hxi : env.kindOf xi = some .local) (hxc : env.kindOf xc = some .local) (hp : (env.scope.kind == .class || (env.scope.kind == .module && env.locals != env.globals)) = false)
    (hLf : env.locals ∉ fp) (hwr : ∀ b ∈ wr, h₀.get? b = none) (hst : St 0 s.heap) (F : Fr h₀ env.locals s.heap m) (hj : J 0 m) (htk : n0 ≤ s.toks)
    (turn : ∀ i v0 v1 m₁ h tk own, i < n → P2 i v0 v1 → n0 ≤ tk → J i m₁ → Fr h₀ env.locals h (fun y => if y = xc then some v1 else if y = xi then some v0 else m₁ y) → News h₀ env.locals h own →
      wpAny (model prog w) A (execs body env) (fun f s₃ => TEnd h₀ env.locals (fun m nx => nx = [] ∧ J (i + 1) m) own { s with heap := h, toks := tk } Q f s₃) E { s with heap := h, toks := tk })
    (done : ∀ m₁ h tk, n0 ≤ tk → J n m₁ → Fr h₀ env.locals h m₁ → wpAny (model prog w) A (execs orelse env) Q E { s with heap := h, toks := tk })
    (hE : PassesOwn (model prog w) A env E) :
    codeAny (model prog w) A (.forLoop (.Tuple [.Name xi pk, .Name xc pv] x1 pt) (.ref I) body orelse env) (fun r s' => match r with | .ok f => Q f s' | .error e => cameBackBy (model prog w) A env E e s') s := by
  have hLw : env.locals ∉ wr := fun h => hLf (W.sub _ h)
  have old : ∀ b o, h₀.get? b = some o → b ∉ wr := fun b o e hb => by rw [hwr b hb] at e; cases e
  refine codeAny_forLoop_any (fun k s' => ∃ h' tk m' i, s' = { s with heap := h', toks := tk } ∧ St i h' ∧ Fr h₀ env.locals h' m' ∧ J i m' ∧ i ≤ n ∧ k = n + 1 - i ∧ n0 ≤ tk) ?_ (n + 1)
    ⟨s.heap, s.toks, m, 0, rfl, hst, F, hj, Nat.zero_le _, rfl, htk⟩
  rintro k s' ⟨H, tk, m', i, rfl, hst', F', hJ, hi, rfl, htk'⟩
  have next : ∀ h₁ : Heap, (∀ b o, b ∉ wr → H.get? b = some o → h₁.get? b = some o) → Fr h₀ env.locals h₁ m' := fun h₁ hk₁ =>
    ⟨F'.ns.at' fun o e => hk₁ _ o hLw e, fun b o e => hk₁ b o (old b o e) (F'.keep b o e), F'.above⟩
  by_cases hlt : i < n
  · refine item i _ _ _ hlt htk' hst' fun T v0 v1 h₁ tk₁ hP2 htk₁ hT hMid hk₁ => ?_
    refine W.go _ x1 pt i T _ _ _ hMid fun h₂ hst₂ hk₂ => ?_
    have ht₂ : h₂.IsTuple T #[v0, v1] := hT.at fun o e => hk₂ T o (W.apart i T h₁ hMid) e
    refine wpAny_assign_Tuple hh ht₂ rfl rfl fun h₃ hx₃ => ?_
    replace hx₃ : Heap.ExtBut h₂.objs.size h₂ h₃ := hx₃
    have up₃ : ∀ b o, h₂.get? b = some o → h₃.get? b = some o := fun b o x => hx₃ b o (Nat.ne_of_lt (Heap.lt_size x)) x
    have F₃ := next h₃ fun b o hb x => up₃ b o (hk₂ b o hb (hk₁ b o hb x))
    show wpAny _ A (do holding [v1] (assign (.Name xi pk) env v0); do holding [] (assign (.Name xc pv) env v1); pure ()) _ _ _
    refine wpAny_bind (wpAny_holding (wpAny_assign_Name (wpAny_storeName_local hxi F₃.ns (fun h₄ hn₄ hs₄ => ?_) hp)))
    replace hs₄ : Heap.SameBut env.locals h₃ h₄ := hs₄
    have F₄ := F₃.set hn₄ hs₄
    refine wpAny_bind (wpAny_holding (wpAny_assign_Name (wpAny_storeName_local hxc F₄.ns (fun h₅ hn₅ hs₅ => wpAny_pure ?_) hp)))
    replace hs₅ : Heap.SameBut env.locals h₄ h₅ := hs₅
    have F₅ := F₄.set hn₅ hs₅
    have hst₅ : St (i + 1) h₅ := W.frame _ _ _ hst₂ fun b hb o e => hs₅.extBut b o (fun q => hLf (q ▸ hb)) (hs₄.extBut b o (fun q => hLf (q ▸ hb)) (up₃ b o e))
    refine wpAny_mono (wpAny_toks_of (n := n0) (Nat.le_succ_of_le (Nat.le_succ_of_le htk₁)) (turn i v0 v1 m' h₅ _ (ownOf h₀ fp h₅) hlt hP2 (Nat.le_succ_of_le (Nat.le_succ_of_le htk₁)) hJ F₅ (news_ownOf hLf))) (fun f s₃ ⟨h1, h₆⟩ => ?_) fun _ _ e => hE _ _ e.2
    have key : (∃ h' tk m' news' nx, s₃ = { s with heap := h', toks := tk } ∧ Fr h₀ env.locals h' m' ∧ News h₀ env.locals h' news' ∧ (∀ p ∈ nx, p ∈ news') ∧ (∀ p ∈ ownOf h₀ fp h₅, p ∈ news') ∧ Apart nx (ownOf h₀ fp h₅) ∧ nx = [] ∧ J (i + 1) m') →
        ∃ q, q < n + 1 - i ∧ ∃ h' tk m' i, s₃ = { s with heap := h', toks := tk } ∧ St i h' ∧ Fr h₀ env.locals h' m' ∧ J i m' ∧ i ≤ n ∧ q = n + 1 - i ∧ n0 ≤ tk := by
      rintro ⟨h₆', tk₆, m₂, news₂, nx, rfl, F₆, N₆, _, hown, _, _, hJ₆⟩
      refine ⟨n + 1 - (i + 1), by omega, h₆', tk₆, m₂, i + 1, rfl, ?_, F₆, hJ₆, hlt, rfl, h1⟩
      refine W.frame _ _ _ hst₅ fun b hb o e => ?_
      cases hn : h₀.get? b with
      | some o₀ =>
        have : o₀ = o := by have q := F₅.keep b o₀ hn; rw [e] at q; exact (Option.some.inj q).symm
        exact this ▸ F₆.keep b o₀ hn
      | none => exact (N₆ _ (hown _ (mem_ownOf hb hn e))).1
    cases f with
    | ret v => exact h₆
    | brk => exact h₆
    | cont => exact key h₆
    | next => exact key h₆
  · have hin : i = n := by omega
    subst hin
    refine wpAny_with_toks (n := n0) (by exact htk') (W.done _ _ _ hst' fun h₁ tk₁ hk₁ h1 => ?_)
    exact wpAny_mono (done m' h₁ tk₁ h1 hJ (next h₁ hk₁)) (fun _ _ x => x) fun _ _ e => hE _ _ e
/-- a walk over the places and the signs of a text -/
theorem enum_str {n0 : Nat} {xi xc : Str} {pk pv pt : Pos} {x1 : Nat} {x : Str} {t : Tok} (J : Nat → (Str → Option Value) → Prop) (hh : A.handled = none)
    (hxi : env.kindOf xi = some .local) (hxc : env.kindOf xc = some .local) (hp : (env.scope.kind == .class || (env.scope.kind == .module && env.locals != env.globals)) = false)
    (F : Fr h₀ env.locals s.heap m) (hj : J 0 m) (htk : n0 ≤ s.toks)
    (turn : ∀ i c ti u m₁ h tk own, x.cps[i]? = some c → n0 ≤ u → n0 ≤ tk → J i m₁ → Fr h₀ env.locals h (fun y => if y = xc then some (.str ⟨#[c]⟩ u) else if y = xi then some (.int (i : Nat) ti) else m₁ y) → News h₀ env.locals h own →
      wpAny (model prog w) A (execs body env) (fun f s₃ => TEnd h₀ env.locals (fun m nx => nx = [] ∧ J (i + 1) m) own { s with heap := h, toks := tk } Q f s₃) E { s with heap := h, toks := tk })
    (done : ∀ m₁ h tk, n0 ≤ tk → J x.cps.size m₁ → Fr h₀ env.locals h m₁ → wpAny (model prog w) A (execs orelse env) Q E { s with heap := h, toks := tk })
    (hE : PassesOwn (model prog w) A env E) :
    wpAny (model prog w) A (call (.type "enumerate") [.str x t]) (fun xv s₁ => wpAny (model prog w) A (pyIter xv) (fun it s₂ => codeAny (model prog w) A (.forLoop (.Tuple [.Name xi pk, .Name xc pv] x1 pt) it body orelse env)
      (fun r s' => match r with | .ok f => Q f s' | .error e => cameBackBy (model prog w) A env E e s') s₂) E s₁) E s := by
  refine call_enumerate_str fun h' he hit hsz hk => ?_
  refine wpAny_pyIter_enum he ?_
  have hLs := F.ns.lt
  have run : ∀ nm, (D : Draws prog w A.in1 s.heap.objs.size [s.heap.objs.size] x.cps.size (SignAt x) (fun i h => h.IsStrIter s.heap.objs.size nm x t i)) → DrawTok prog w A.in1 s.heap.objs.size nm x t → h'.IsStrIter s.heap.objs.size nm x t 0 →
      codeAny (model prog w) A (.forLoop (.Tuple [.Name xi pk, .Name xc pv] x1 pt) (.ref (s.heap.objs.size + 1)) body orelse env) (fun r s' => match r with | .ok f => Q f s' | .error e => cameBackBy (model prog w) A env E e s') { s with heap := h' } := by
    intro nm D DT st
    refine for_pair (P2 := fun i v0 v1 => ∃ ti c u, v0 = .int i ti ∧ x.cps[i]? = some c ∧ v1 = .str ⟨#[c]⟩ u ∧ n0 ≤ u) J hh (WalksT.enumerateD D (s.heap.objs.size + 1) (Nat.succ_ne_self _) (fun hm => Nat.succ_ne_self _ (List.mem_singleton.mp hm)) (.head _)) ?_ hxi hxc hp ?_ ?_ ⟨⟨_, he⟩, st⟩ ⟨F.ns.keeps hk, fun b o e => hk b o (F.keep b o e), F.above⟩ hj htk ?_ ?_ hE
    · intro i s' Q' E' hi ht hst hQ
      obtain ⟨⟨old, he'⟩, hs'⟩ := hst
      have hx : x.cps[i]? = some x.cps[i] := Array.getElem?_eq_getElem hi
      refine pyNext_tok DT he' hs' hx (Nat.succ_ne_self _) fun h'' ho hs'' hT hk => ?_
      exact hQ _ _ _ h'' _ ⟨_, _, _, rfl, hx, rfl, ht⟩ (Nat.le_succ_of_le (Nat.le_succ_of_le ht)) ⟨_, hT, rfl, _, rfl⟩ ⟨⟨_, ho⟩, hs'', Nat.ne_of_gt (Heap.lt_size he'), Nat.ne_of_gt (by obtain ⟨_, q, _⟩ := hs'; exact Heap.lt_size q)⟩
        fun b o hb y => hk b o (fun e' => hb (by simp [e'])) (fun e' => hb (by simp [e'])) y
    · intro hm
      rcases List.mem_cons.mp hm with e | hm
      · exact absurd e (Nat.ne_of_lt (Nat.lt_succ_of_lt hLs))
      · exact absurd (List.mem_singleton.mp hm) (Nat.ne_of_lt hLs)
    · intro b hb
      have hab := F.above
      have hb' : s.heap.objs.size ≤ b := by
        rcases List.mem_cons.mp hb with rfl | hb
        · exact Nat.le_succ _
        · rw [List.mem_singleton.mp hb]; exact Nat.le_refl _
      exact Heap.get?_none_of_le (Nat.le_trans hab (Nat.le_trans (Nat.le_of_lt hLs) hb'))
    · rintro i v0 v1 m₁ h tk own hi ⟨ti, c, u, rfl, hc, rfl, hu⟩
      exact turn i c ti u m₁ h tk own hc hu
    · exact done
  cases ha : x.cps.all (· < 128)
  · exact run "str_iterator" (Draws.strWide (A := A.in1) hh _ x t) (fun _ _ _ _ _ a b c => wpAny_nextOf_wide_item a b c) (by simpa [strIterType, ha] using hit)
  · exact run "str_ascii_iterator" (Draws.strAscii (A := A.in1) hh _ x t) (fun _ _ _ _ _ a b c => wpAny_nextOf_ascii_item a b c) (by simpa [strIterType, ha] using hit)
end
section
variable {w : World} {A : Around} {E : Value → Shared → Prop} {s : Shared} {p : Program} {loose : List Str} {mg mb : Str → Option Value}
/-- as enter, but what is raised within leaves by the caller's own -/
theorem enterE {Q : Value → Shared → Prop} {name qual : Str} {params : Arguments} {body : List Stmt} {scope : Scope} {dV kV doc pm cdv ct oc : Value} {an od : Option Addr} {osl : Array (Option Value)} {f : Addr} {args : List Value}
    (S : Std w p loose mg mb s.heap) (hroom : A.depth < recursionLimit)
    (ho : (hd.heap_39 w.params).lookup f = some ⟨oc, od, .func (fnOf name qual params body scope dV kV doc pm an cdv ct), osl⟩) (hcd : codeIn (hd.heap_39 w.params) cdv qual = true)
    (hbind : bindArgs (fnOf name qual params body scope dV kV doc pm an cdv ct) ⟨args, []⟩ = pure (posB params args)) (hloc : ∀ y ∈ posB params args, scope.names.lookup y.1 = some .local)
    (h : ∀ h₁, Fr s.heap s.heap.objs.size h₁ (bmap (posB params args).reverse) → News s.heap s.heap.objs.size h₁ [] → (hd.heap_39 w.params).In s.heap → TopRead p loose mg mb s.heap →
      wpAny (model prog w) (A.deeper (envOf qual scope s.heap.objs.size f cdv)) (execs body (envOf qual scope s.heap.objs.size f cdv))
        (fun fl s' => Q (match fl with | .ret v => v | _ => .none) s')
        (fun e s' => wpAny (model prog w) (A.deeper (envOf qual scope s.heap.objs.size f cdv)) (leaving (envOf qual scope s.heap.objs.size f cdv) e) (fun _ s'' => E e s'') (fun e' s'' => E e' s'') s') { s with heap := h₁, toks := s.toks + (posB params args).length })
    (hco : scope.isCoroutine = false) (hgen : scope.isGenerator = false) (hk : scope.kind = .function) (hcell : ∀ x ∈ scope.names, x.2 ≠ .cell) :
    wpAny (model prog w) A (call (.ref f) args []) Q E s := by
  refine wpAny_call ?_
  refine codeAny_call_def (fd := fnOf name qual params body scope dV kV doc pm an cdv ct) (body := body) (binds := posB params args) hroom (S.X _ _ ho) rfl S.T.nolimit (codeRec_of S.X hcd) rfl (BindsTo.of_eq hbind) hcell hloc (fun h₁ hns hk₁ => ?_) hco hgen hk
  have e : (fun x => (posB params args).reverse.lookup x) = bmap (posB params args).reverse := funext fun y => bmap_lookup _ y
  rw [e] at hns
  exact wpAny_mono (h h₁ ⟨hns, hk₁, Nat.le_refl _⟩ News.nil S.X S.T) (fun _ _ x => x) (fun _ _ x => x)
end
local macro_rules | `(tactic| walk_at "my enterE") => `(tactic| (refine' enterE (by assumption) (by first | assumption | omega) ?k1 ?k2 ?k3 ?k4 ?_ ?c1 ?c2 ?c3 ?c4; (case k1 => k_is); (case k2 => k_is); (case k3 => exact rfl); (case k4 => exact locs rfl); (case c1 => rfl); (case c2 => rfl); (case c3 => rfl); (case c4 => decide); intro h₁ F N X T; (dsimp only [posB, bmap, List.map, List.zip, List.zipWith, List.reverse, List.reverseAux, List.length] at F; dsimp only [posB, List.map, List.zip, List.zipWith, List.length])))
section
variable {w : World} {d u : Nat} {fr : Option (List Env)} {gs : Option (List Code)} {E : Value → Shared → Prop} {s : Shared} {p : Program} {loose : List Str} {mg mb : Str → Option Value} {Q : Value → Shared → Prop}
theorem indexOf_ok {q : List Nat} {c : Nat} {t0 t1 : Tok} {base : Heap} {outer : List Env} (S0 : Std w p loose mg mb s.heap) (hroom : d < recursionLimit) (ht0 : t1 ≠ 0) (ht1 : t1 < s.toks)
    (k : ∀ i h' t tk, q.idxOf? c = some i → Keep s.heap h' → Q (.int (i : Nat) t) { s with heap := h', toks := tk })
    (kn : c ∉ q → Below (Ar d fr gs u) base outer s.heap ∧ ∀ h' e tk, RaisedSN base s.heap outer e (.type "ValueError") [] h' → s.heap.UpToSlots h' → E (.ref e) { s with heap := h', toks := tk }) :
    wpAny (model prog w) (Ar d fr gs u) (call (.ref 56) [.str (S q) t0, .str (S [c]) t1] []) Q E s := by
  walk_at "my enterE"
  have htk0 : t1 + 1 ≤ s.toks + [Value.str (S q) t0, Value.str (S [c]) t1].length := Nat.le_trans ht1 (Nat.le_add_right _ _)
  refine wpAny_execs_cons ?_
  refine wpAny_For ?_ (by intro _; rfl)
  repeat' ((fail_if_success (with_reducible show wpAny _ _ (PySem.call (Value.type _) _ _) _ _ _)); walk_at "my step")
  refine enum_str (n0 := t1 + 1) (fun i m => c ∉ q.take i ∧ m (Str.ofString "b") = some (.str (S [c]) t1)) rfl rfl rfl rfl (by assumption) ⟨by simp, rfl⟩ (by exact Nat.le_trans ht1 (by first | exact Nat.le_add_right _ _ | exact Nat.le_succ_of_le (Nat.le_add_right _ _))) ?_ ?_ (by passes_own)
  · rintro i c' ti u m₁ h tk own hc hu htk ⟨hno, e1⟩ F N
    replace F := reveal F (x := Str.ofString "b") ((if_neg (by decide +kernel)).trans ((if_neg (by decide +kernel)).trans e1))
    have hq : q[i]? = some c' := by simpa using hc
    repeat' walk_at "my step"
    refine is_str (Nat.ne_of_gt (Nat.lt_of_lt_of_le (Nat.succ_pos t1) hu)) ht0 (Nat.ne_of_gt hu) (booked (S0.keep (Fr.keep (by assumption)))) fun b hb => ?_
    repeat' walk_at "my step"
    · have e : c' = c := by have := hb (by assumption); simpa [S] using this
      subst e
      exact k i _ _ _ (idx_at hno hq) (Fr.keep (by assumption))
    · have e : c' = c := by (rename (_ == S [c]) = true => hq2); rw [show (⟨#[c']⟩ : Str) = S [c'] from rfl, S_beq] at hq2; simpa using hq2
      subst e
      exact k i _ _ _ (idx_at hno hq) (Fr.keep (by assumption))
    · have e : c' ≠ c := by (rename (_ == S [c]) = false => hq2); rw [show (⟨#[c']⟩ : Str) = S [c'] from rfl, S_beq] at hq2; simpa using hq2
      refine TEnd.mk (nx := []) (by assumption) (by assumption) (fun p hp => nomatch hp) (by walk_at "my own") Apart.nil ?_
      refine ⟨rfl, ?zt1, ?za⟩
      case za => exact rfl
      case zt1 => 
        rw [List.take_add_one, hq]
        simp only [Option.toList_some, List.mem_append, List.mem_singleton, not_or]
        exact ⟨hno, fun q => e q.symm⟩
  · rintro m₁ h tk htk ⟨hno, e1⟩ F
    obtain ⟨K, kn⟩ := kn (by rw [List.take_of_length_le (by simp)] at hno; exact hno)
    have N : News s.heap s.heap.objs.size h [] := News.nil
    repeat' ((fail_if_success (with_reducible show wpAny _ _ (leaving _ _) _ _ _)); walk_at "my step")
    (rename Heap.NewExc _ _ _ _ => hx)
    refine leave_newS (cls := "ValueError") (name := Str.ofString "indexOf") (cd := .ref 55) (a := 56) (h := h) (g := s.heap) (base := base) (outer := outer) K ?hx2 (m := m₁) F N (fun h' R _ up => ?_) ?hkk
    case hkk => rfl
    case hx2 => exact hx
    exact kn _ _ _ R up
end
-- line
def deedL (kind c : Nat) : List Nat := [[62, c], [62, 62, c], [60, c], [60, 60, c], [126], [94], [42, 42], [42]].getD kind []
def lineL (place kind c goal : Nat) : List Nat := (65 + place) :: (deedL kind c ++ [65 + goal, 59])
section
variable {w : World} {d u : Nat} {fr : Option (List Env)} {gs : Option (List Code)} {E : Value → Shared → Prop} {s : Shared} {p : Program} {loose : List Str} {mg mb : Str → Option Value} {Q : Value → Shared → Prop}
theorem abc_at {i : Nat} (hi : i < 3) : Txt.item (Str.ofString "ABC") (i : Nat) = S [65 + i] := by
  have : i = 0 ∨ i = 1 ∨ i = 2 := lt3 (by omega)
  rcases this with rfl | rfl | rfl <;> decide +kernel
theorem cast_str {Q : Value → Shared → Prop} {x y : Str} {t : Tok} {s : Shared} (e : x = y) (h : Q (.str x t) s) : Q (.str y t) s := e ▸ h
theorem deed_at {c kind : Nat} (hk : kind < 8) {t0 t1 t2 t3 t4 t5 t6 t7 : Tok} : ∃ tv, [Value.str (Str.ofString ">" ++ S [c]) t0, .str (Str.ofString ">>" ++ S [c]) t1, .str (Str.ofString "<" ++ S [c]) t2, .str (Str.ofString "<<" ++ S [c]) t3, .str (Str.ofString "~") t4, .str (Str.ofString "^") t5, .str (Str.ofString "**") t6, .str (Str.ofString "*") t7][kind]? = some (.str (S (deedL kind c)) tv) := by
  rw [show Str.ofString ">" = S [62] by decide +kernel, show Str.ofString ">>" = S [62, 62] by decide +kernel, show Str.ofString "<" = S [60] by decide +kernel, show Str.ofString "<<" = S [60, 60] by decide +kernel, show Str.ofString "~" = S [126] by decide +kernel, show Str.ofString "^" = S [94] by decide +kernel, show Str.ofString "**" = S [42, 42] by decide +kernel, show Str.ofString "*" = S [42] by decide +kernel, S_add, S_add, S_add, S_add]
  have e : kind = 0 ∨ kind = 1 ∨ kind = 2 ∨ kind = 3 ∨ kind = 4 ∨ kind = 5 ∨ kind = 6 ∨ kind = 7 := lt8 (by omega)
  rcases e with rfl | rfl | rfl | rfl | rfl | rfl | rfl | rfl <;> exact ⟨_, rfl⟩
theorem deed_len {c kind : Nat} (hk : kind < 8) : (S (deedL kind c)).length ≤ 3 := by
  rw [S_len]
  have e : kind = 0 ∨ kind = 1 ∨ kind = 2 ∨ kind = 3 ∨ kind = 4 ∨ kind = 5 ∨ kind = 6 ∨ kind = 7 := lt8 (by omega)
  rcases e with rfl | rfl | rfl | rfl | rfl | rfl | rfl | rfl <;> simp [deedL]
theorem line_ok {place kind c goal : Nat} {t0 t1 t2 t3 : Tok} (S0 : Std w p loose mg mb s.heap) (hroom : d < recursionLimit) (hp : place < 3) (hk : kind < 8) (hg : goal < 3)
    (k : ∀ h' t tk, Keep s.heap h' → Q (.str (S (lineL place kind c goal)) t) { s with heap := h', toks := tk }) :
    wpAny (model prog w) (Ar d fr gs u) (call (.ref 87) [.int place t0, .int kind t1, .str (S [c]) t2, .int goal t3] []) Q E s := by
  walk_at "my enter"
  have hlen := deed_len (c := c) hk
  repeat' ((fail_if_success (with_reducible show wpAny _ _ (subscriptTail _ _ (Value.ref _) _) _ _ _)); walk_at "my step")
  refine kba_turn (value' := PySem.Expr.Name (PySem.Str.ofString "_") ⟨0, 0, 0, 0⟩) (fun _ => rfl) ?_
  rename News _ _ _ _ => N
  rename Fr _ _ _ _ => F
  refine (deed_at hk).elim fun tv hv => item_listL (kso_isList N (.head _) rfl) (by omega) (by simp; omega) hv ?_
  repeat' walk_at "my step"
  refine cast_str (Q := Q) ?_ (k _ _ _ (Fr.keep (by assumption)))
  rw [abc_at hp, abc_at hg, show Str.ofString ";" = S [59] by decide +kernel]
  simp only [S_add]
  exact congrArg S (by simp [lineL])
end
-- row
local macro_rules | `(tactic| walk_at "my cstepL") => `(tactic| first | walk_at "my cname" | walk_at "my stepL")
local macro_rules | `(tactic| walk_at "execs cons") => `(tactic| refine wpAny_execs_cons ?_)
def hasL (x : List Nat) : Bool := kdpHas EX (S x)
def sizeL (pg : List Nat) : Nat := if hasL (pg.take 3) then 3 else if hasL (pg.take 2) then 2 else 1
inductive RowOk (one two : Nat) : List Nat → List Int → Prop
  | nil : RowOk one two [] []
  | known {pg : List Nat} {codes : List Int} (h : hasL (pg.take (sizeL pg)) = true) (hp : pg ≠ []) (r : RowOk one two (pg.drop (sizeL pg)) codes) : RowOk one two pg (kdpLook EX (S (pg.take (sizeL pg))) 0 :: codes)
  | other {pg : List Nat} {codes : List Int} {x i : Nat} (h : hasL (pg.take (sizeL pg)) = false) (hx : pg.take (sizeL pg) = [x]) (hs : sizeL pg < pg.length) (hi : [65, 66, 67, one, two].idxOf? x = some i)
      (r : RowOk one two (pg.drop (sizeL pg)) codes) : RowOk one two pg ((256 + (i : Int)) :: codes)
theorem sizeL_pos (pg : List Nat) : 1 ≤ sizeL pg ∧ sizeL pg ≤ 3 := by unfold sizeL; split <;> (try split) <;> omega
theorem rowOk_len {one two : Nat} {pg : List Nat} {codes : List Int} (R : RowOk one two pg codes) : codes.length ≤ pg.length := by
  induction R with
  | nil => exact Nat.le_refl _
  | @known pg _ _ hp _ ih =>
    have := (sizeL_pos pg).1
    have := List.length_pos_iff.mpr hp
    rw [List.length_drop] at ih; simp only [List.length_cons]; omega
  | @other pg _ _ _ _ _ hs _ _ ih =>
    have := (sizeL_pos pg).1
    rw [List.length_drop] at ih; simp only [List.length_cons]; omega
section
variable {w : World} {d u : Nat} {fr : Option (List Env)} {gs : Option (List Code)} {E : Value → Shared → Prop} {s : Shared} {p : Program} {loose : List Str} {mg mb : Str → Option Value} {Q : Value → Shared → Prop}
theorem two_three {t2 t3 : Tok} {i : Nat} {v : Value} (h : #[Value.int 2 t2, Value.int 3 t3][i]? = some v) : ∃ (j : Nat) (tj : Tok), v = .int j tj := by
  match i, h with
  | 0, h => exact ⟨2, t2, by simpa using h.symm⟩
  | 1, h => exact ⟨3, t3, by simpa using h.symm⟩
  | n + 2, h => simp at h
theorem wides {hs : Nat → Bool} {t2 t3 : Tok} {ys vs : List Value} (hlen : vs.length = 2) (hP : ∀ (j : Nat) (v : Value), vs[j]? = some v → #[Value.int 2 t2, Value.int 3 t3][j]? = some v)
    (hF : Paired (fun v y : Value => ∃ i t, v = .int i t ∧ y = .int i t) (vs.filter fun v => match v with | .int i _ => hs i.toNat | _ => false) ys) :
    IntsAre ys ((if hs 2 then [2] else []) ++ (if hs 3 then [3] else [])) := by
  rcases vs with _ | ⟨a, _ | ⟨b, _ | ⟨u, r⟩⟩⟩
  · simp at hlen
  · simp at hlen
  rotate_left
  · simp at hlen
  · skip
    have ha := hP 0 a rfl
    have hb := hP 1 b rfl
    simp at ha hb
    subst ha hb
    cases h2 : hs 2 <;> cases h3 : hs 3 <;> simp [h2, h3] at hF ⊢
    · cases hF; exact .nil
    · cases hF with
      | cons h r => obtain ⟨i, t, e, rfl⟩ := h; cases e; cases r; exact .cons _ _ .nil
    · cases hF with
      | cons h r => obtain ⟨i, t, e, rfl⟩ := h; cases e; cases r; exact .cons _ _ .nil
    · cases hF with
      | cons h r =>
        obtain ⟨i, t, e, rfl⟩ := h; cases e
        cases r with
        | cons h r => obtain ⟨i, t, e, rfl⟩ := h; cases e; cases r; exact .cons _ _ (.cons _ _ .nil)
theorem size_max {pg : List Nat} {M : Int} (hM : M ∈ [(1 : Int)] ++ ((if hasL (pg.take 2) then [2] else []) ++ (if hasL (pg.take 3) then [3] else [])))
    (hm : ∀ a : Int, a ∈ [(1 : Int)] ++ ((if hasL (pg.take 2) then [2] else []) ++ (if hasL (pg.take 3) then [3] else [])) → a ≤ M) : M = (sizeL pg : Int) := by
  unfold sizeL
  cases h2 : hasL (pg.take 2) <;> cases h3 : hasL (pg.take 3) <;> simp [h2, h3] at hM hm ⊢ <;> omega
theorem made_else {c : Bool} {a b : Made} {Q : Value → Shared → Prop} {s : Shared} (e : c = false) (h : b.post Q s) : (if c = true then a else b).post Q s := by subst e; exact h
theorem slice_tok {w : World} {A : Around} {E : Value → Shared → Prop} {s : Shared} {value slice : Expr} {x : Str} {t : Tok} {j : Int} {uj : Tok} {Q : Value → Shared → Prop}
    (hc : (Builtin.Str.strSliceIndices none (some j) 1 x.length).length ≠ x.length) (hsz : x.length ≤ sizeLine)
    (h : ∀ h', Keep s.heap h' → Q (.str (Txt.slice x none (some j)) s.toks) { s with heap := h', toks := s.toks + 1 })
    (hs : subscripted slice false (.str x t) (.ref s.heap.objs.size) = operate [.ref s.heap.objs.size, .str x t] (getItem (.str x t) (.ref s.heap.objs.size)) := by with_unfolding_all rfl)
    (ht : ∀ r, letTemporaryGo value (.str x t) r = pure () := by intro _; with_unfolding_all rfl) :
    wpAny (model prog w) A (subscriptTail value slice (.str x t) (.ref s.heap.objs.size)) Q E { s with heap := s.heap.push { cls := .type "slice", data := .fields #[.none, .int j uj, .none] } } := by
  refine tail_of_ItemOn ⟨"str", _, F.slot_str_getitem.lookup, typeIs_str _ _ _, wpAny_getItem_str_slice (l := none) (u := some (j, uj)) (st := none) ⟨_, Heap.get?_push_size _ (o := { cls := .type "slice", data := .fields #[.none, .int j uj, .none] }) rfl, rfl, rfl⟩ rfl ?_⟩ hs ht
  have hle := Txt.slice_le x none (some j)
  have hk := h (s.heap.push { cls := .type "slice", data := .fields #[.none, .int j uj, .none] }) (fun b o e => Heap.get?_push_of_some _ e)
  unfold Txt.slice at hle hk
  unfold sliceMade
  have e : ((1 : Int) == 1 && (Builtin.Str.strSliceIndices none (some j) 1 x.length).length == x.length) = false := by simpa using hc
  rw [e] at hle hk
  rw [if_neg Bool.false_ne_true] at hle hk
  exact made_else e ⟨Nat.le_trans hle hsz, hk⟩
theorem slice_any {w : World} {A : Around} {E : Value → Shared → Prop} {s : Shared} {value slice : Expr} {x : Str} {t : Tok} {j : Int} {uj : Tok} {Q : Value → Shared → Prop} (hsz : x.length ≤ sizeLine)
    (h : ∀ h' t' tk, Keep s.heap h' → Q (.str (Txt.slice x none (some j)) t') { s with heap := h', toks := tk })
    (hs : subscripted slice false (.str x t) (.ref s.heap.objs.size) = operate [.ref s.heap.objs.size, .str x t] (getItem (.str x t) (.ref s.heap.objs.size)) := by with_unfolding_all rfl)
    (ht : ∀ r, letTemporaryGo value (.str x t) r = pure () := by intro _; with_unfolding_all rfl) :
    wpAny (model prog w) A (subscriptTail value slice (.str x t) (.ref s.heap.objs.size)) Q E { s with heap := s.heap.push { cls := .type "slice", data := .fields #[.none, .int j uj, .none] } } :=
  tail_of_ItemOn (SBH.sliceItem_ns (P := fun h' => Keep s.heap h') (fun h' o k b o' e => Heap.get?_push_of_some _ (k b o' e)) Keep.refl h hsz) hs ht
theorem proper_len {pg : List Nat} {k : Nat} (h : k < pg.length) : (Builtin.Str.strSliceIndices none (some (k : Int)) 1 (S pg).length).length ≠ (S pg).length := by
  intro e
  have h2 := congrArg (fun x : Str => x.length) (slice_take pg k)
  have e2 : Txt.slice (S pg) none (some (k : Int)) = S pg := by
    unfold Txt.slice
    rw [if_pos (by simpa using e)]
  rw [e2] at h2
  simp only [S_len, List.length_take] at h2
  omega
theorem idx_mem {c : Nat} : ∀ {q : List Nat} {i : Nat}, q.idxOf? c = some i → c ∈ q := by
  intro q i h
  by_cases hm : c ∈ q
  · exact hm
  · rw [List.idxOf?_eq_none_iff.mpr hm] at h; cases h
def RowJ (L : Addr) (ra : Addr) (one two : Nat) (t1 : Tok) (codes : List Int) (n : Nat) : Inv := fun m nx => ∃ pg done rest us sp o t, RowOk one two pg rest ∧ done ++ rest = codes ∧ n = pg.length ∧ pg.length ≤ 100 ∧ IntsAre us done ∧ nx = [(ra, listOf us.toArray sp), (L + 1, o)] ∧ o.data = .cell (some (.str (S pg) t)) ∧ m (Str.ofString "row") = some (.ref ra) ∧ m (Str.ofString "letters") = some (.str (S [one, two]) t1)
theorem row_ok {page : List Nat} {codes : List Int} {one two : Nat} {t0 t1 : Tok} (S0 : Std w p loose mg mb s.heap) (hroom : d + 1 < recursionLimit) (hl : page.length ≤ 100) (R : RowOk one two page codes)
    (k : ∀ h' a vs tk, Keep s.heap h' → h'.IsList a vs.toArray → IntsAre vs (codes ++ [0]) → Q (.ref a) { s with heap := h', toks := tk }) :
    wpAny (model prog w) (Ar d fr gs u) (call (.ref 92) [.str (S page) t0, .str (S [one, two]) t1] []) Q E s := by
  have hroom' : d < recursionLimit := by omega
  walk_at "my enterC"
  repeat' walk_at "my stepL"
  rename Fr _ _ _ _ => F
  rename News _ _ _ _ => N
  rename_i ra _ hcr _
  refine while_rule (RowJ s.heap.objs.size ra one two t1 codes) page.length F N ⟨page, [], codes, [], 0, _, t0, R, rfl, rfl, hl, .nil, rfl, by assumption, rfl, rfl⟩ ?_ PassesOwn.never
  have hcl100 := Nat.le_trans (rowOk_len R) hl
  rintro n m₁ nx₁ h tk ⟨pg, done, rest, us, sp, o, t, R, hcodes, hn, hpl, hus, rfl, ho, e1, e2⟩ F N
  replace F := reveal2 F e1 e2
  repeat' walk_at "my cstepL"
  · -- the end
    rename Fr _ _ _ _ => F
    rename News _ _ _ _ => N
    have hlen : done.length ≤ 100 := by rw [← hcodes, List.length_append] at hcl100; omega
    refine kmk_add_ints F N (kso_isList N (List.mem_cons_of_mem _ (List.mem_cons_self ..)) rfl) (kso_isList N (List.mem_cons_self ..) rfl) hus (.cons 0 _ .nil) (fun D us' h' F' N' _ hI => ?_) (by rw [sizeLine_eq]; simp; omega)
    have hnil : pg = [] := List.isEmpty_iff.mp (by assumption)
    subst hnil
    cases R with
    | nil =>
      rw [List.append_nil] at hcodes
      subst hcodes
      exact k _ _ _ _ F'.keep (kso_isList (s := { s with heap := h' }) N' (List.mem_cons_self ..) rfl) hI
    | known _ hp => exact absurd rfl hp
    | other _ _ hs => simp at hs
  · refine wpAny_ListComp_free (cl := [(Str.ofString "page", s.heap.objs.size + 1)]) (fun v => match v with | .int i _ => hasL (pg.take i.toNat) | _ => false) (fun v y => ∃ i t, v = .int i t ∧ y = .int i t) rfl (by decide) rfl (by decide) rfl ?_ (by intro _; rfl)
    repeat' walk_at "my cstepL"
    rename Fr _ _ _ _ => F
    rename News _ _ _ _ => N
    have hoN := (N _ (List.mem_cons_of_mem _ (List.mem_cons_of_mem _ (List.mem_cons_of_mem _ (List.mem_cons_self ..))))).1
    have hT := (N _ (List.mem_cons_self ..)).1
    have hcl : ∀ (h : Heap), h.get? (s.heap.objs.size + 1) = some o → h.IsCell (s.heap.objs.size + 1) (some (.str (S pg) t)) := fun h e => ⟨_, e, ho⟩
    refine wpAny_pyIter_tuple ⟨_, hT, rfl, _, rfl⟩ ⟨_, _, _, _, _, _, rfl, Walks.tuple rfl _ _ (Nat.ne_of_lt (Heap.lt_size hT)) _, ?cs, ⟨⟨_, Heap.get?_push_size _ rfl, rfl, rfl⟩, _, Heap.get?_push_of_some _ hT, rfl, _, rfl⟩, ?cf, ⟨?ct, ?ce⟩, ?cd⟩
    case cs => show 2 ≤ sizeLine; rw [sizeLine_eq]; decide
    case cf =>
      intro b hb
      rw [Heap.size_push]
      rcases List.mem_cons.mp hb with rfl | hb
      · exact Nat.lt_succ_self _
      · rw [List.mem_singleton.mp hb]; exact Nat.lt_succ_of_lt (Heap.lt_size hT)
    case ct =>
      intro C i v s₃ m₃ E' hC hP hn hm hk htk
      have hkk : Keep s.heap s₃.heap := fun b o' e => hk b o' (fun hm2 => absurd (List.mem_singleton.mp hm2) (Nat.ne_of_lt (Heap.lt_size (F.keep _ _ e)))) (Heap.get?_push_of_some _ (F.keep _ _ e))
      have hc3 := hcl s₃.heap (hk _ _ (fun hm2 => absurd (List.mem_singleton.mp hm2) (Nat.ne_of_lt (Heap.lt_size hoN))) (Heap.get?_push_of_some _ hoN))
      have hab : s.heap.objs.size ≤ C := Nat.le_trans F.above (Nat.le_trans (Nat.le_of_lt F.ns.lt) (Nat.le_trans (Nat.le_succ _) (Nat.le_trans (Nat.le_of_eq (Heap.size_push ..).symm) hC)))
      have F3 : Fr s.heap C s₃.heap m₃ := ⟨hn, hkk, hab⟩
      obtain ⟨j, tj, rfl⟩ := two_three hP
      refine wpAny_tests_one ?_
      repeat' ((fail_if_success (with_reducible show wpAny _ _ (subscriptTail _ _ (Value.str _ _) (Value.ref _)) _ _ _)); walk_at "my cstep")
      refine slice_any (by rw [S_len, sizeLine_eq]; omega) fun h2 t2 tk2 k2 => ?_
      rw [slice_take]
      repeat' walk_at "my cstep"
      · exact (S0.keep (Keep.trans hkk k2)).X
      · refine contains_ok (p := p) (loose := loose) (mg := mg) (mb := mb) ?sk hroom fun h3 tk3 k3 => ?_
        case sk => exact S0.keep (Keep.trans hkk k2)
        repeat' walk_at "my cstep"
        all_goals first | exact ⟨_, _, rfl, k2.trans k3⟩ | simp [hasL]
    case ce =>
      rintro C i v s₃ m₃ E' hC hP hp hn hm hk htk
      obtain ⟨j, tj, rfl⟩ := two_three hP
      repeat' walk_at "my cstep"
      exact ⟨_, _, rfl, fun _ _ e => e⟩
    case cd =>
      intro D h' tk' ys vs hD hIs hpl hlen hP hF hk
      have hI := wides (hs := fun n => hasL (pg.take n)) hlen hP hF
      have hkh : Keep _ h' := fun b o' e => hk b o' (fun hm2 => absurd (List.mem_singleton.mp hm2) (Nat.ne_of_lt (Heap.lt_size e))) (Heap.get?_push_of_some _ e)
      replace F := F.after hkh
      replace N := News.keepsAll N hkh
      refine kmk_add_ints F N (kso_isList (s := { s with heap := h' }) N (List.mem_cons_of_mem _ (List.mem_cons_self ..)) rfl) (by exact hIs) (.cons 1 _ .nil) hI (fun D' us' h2 F' N' hlt hI2 => ?_) (by rw [sizeLine_eq]; split <;> split <;> simp)
      repeat' ((fail_if_success (with_reducible show wpAny _ _ (PySem.call (Value.builtin _) _ _) _ _ _)); walk_at "my cstepL")
      refine max_list_N rfl (by assumption) (by assumption) (kso_isList (s := { s with heap := h2 }) N' (List.mem_cons_self ..) rfl) hI2 (by simp) fun h3 M tM tk3 F3 N3 hM hMm => ?_
      have hMs : M = (sizeL pg : Int) := size_max hM hMm
      subst hMs
      cases hR : hasL (pg.take (sizeL pg))
      · cases R with
        | nil => simp at *
        | known h2 => rw [h2] at hR; cases hR
        | @other _ codes' x i h2 hx hs hi r =>
          repeat' ((fail_if_success (with_reducible show wpAny _ _ (subscriptTail _ _ (Value.str _ _) (Value.ref _)) _ _ _)); walk_at "my cstepL")
          refine slice_tok (proper_len hs) (by rw [S_len, sizeLine_eq]; omega) fun h4 k4 => ?_
          rw [slice_take, hx]
          (rename Fr _ _ _ _ => F4; replace F4 := F4.after k4)
          (rename News _ _ _ _ => N4; replace N4 := News.keepsAll N4 k4)
          repeat' walk_at "my cstepL"
          refine wpAny_with_toks (n := tk3 + 1 + 1) (by first | omega | (dsimp only; omega)) (contains_ok (p := p) (loose := loose) (mg := mg) (mb := mb) ?sk5 hroom fun h5 tk5 k5 htk5 => ?_)
          case sk5 => exact S0.keep (Fr.keep (by assumption))
          (rename Fr _ _ _ _ => F5; replace F5 := F5.after k5)
          (rename News _ _ _ _ => N5; replace N5 := News.keepsAll N5 k5)
          rw [show kdpHas EX (S [x]) = false from hx ▸ hR]
          repeat' ((fail_if_success (with_reducible show wpAny _ _ (binaryOp Operator.Add (Value.str _ _) _) _ _ _)); walk_at "my cstepL")
          refine wpAny_with_toks (n := tk3 + 1 + 1) (Nat.le_trans htk5 (by first | exact Nat.le_refl _ | exact Nat.le_add_right _ _ | exact Nat.le_succ_of_le (Nat.le_add_right _ _) | exact Nat.le_succ_of_le (Nat.le_succ_of_le (Nat.le_add_right _ _)))) ?_
          walk_at "my cstepL"
          intro htk6
          repeat' walk_at "my cstepL"
          rw [show Str.ofString "ABC" = S [65, 66, 67] by decide +kernel, S_add]
          refine indexOf_ok (p := p) (loose := loose) (mg := mg) (mb := mb) (base := s.heap) (outer := []) ?sk6 hroom (Nat.succ_ne_zero _) (Nat.lt_of_lt_of_le (Nat.lt_succ_self _) htk6) (fun i6 h6 t6 tk6 hi6 k6 => ?_) (fun hno => absurd (idx_mem hi) hno)
          case sk6 => exact S0.keep (Fr.keep (by assumption))
          (rename Fr _ _ _ _ => F6; replace F6 := F6.after k6)
          (rename News _ _ _ _ => N6; replace N6 := News.keepsAll N6 k6)
          have hii : i6 = i := by have := hi6.symm.trans hi; simpa using this
          subst hii
          repeat' walk_at "my cstepL"
          refine add_int_ok (p := p) (loose := loose) (mg := mg) (mb := mb) ?sk7 hroom fun h7 t7 tk7 k7 => ?_
          case sk7 => exact S0.keep (Fr.keep (by assumption))
          (rename Fr _ _ _ _ => F7; replace F7 := F7.after k7)
          (rename News _ _ _ _ => N7; replace N7 := News.keepsAll N7 k7)
          repeat' walk_at "my cstepL"
          (rename News _ _ _ _ => N7)
          (rename Fr _ _ _ _ => F7)
          have N8 : News s.heap s.heap.objs.size h7 [(ra, listOf us.toArray sp), (s.heap.objs.size + 1, o)] := fun p hp => N7 p (List.mem_cons_of_mem _ (List.mem_cons_of_mem _ (List.mem_cons_of_mem _ hp)))
          have hlr := hus.length
          have hdl : done.length ≤ 100 := by rw [← hcodes, List.length_append] at hcl100; omega
          refine append_K F7 N8 (.head ?zu2) (fun h8 F8 N8' => ?_) (by rw [sizeLine_eq]; simp; omega)
          · intro p hp
            rw [List.mem_singleton.mp hp]
            exact Nat.ne_of_lt hcr
          clear N7 F7 N8
          repeat' walk_at "my cstepL"
          (rename News _ _ _ _ => N9)
          (rename Fr _ _ _ _ => F9)
          simp only [List.push_toArray] at N9
          refine TEnd.mk F9 N9 (fun p hp => hp) (fun p hp => nomatch hp) Apart.none ?_
          have hl1 := (sizeL_pos pg).1
          refine ⟨(pg.drop (sizeL pg)).length, by rw [hn, List.length_drop]; omega, ?_⟩
          refine ⟨pg.drop (sizeL pg), done ++ [256 + (i6 : Int)], codes', us ++ [.int (256 + (i6 : Int)) t7], ?zsp1, ?zo1, ?zt1, r, ?yy1, rfl, by rw [List.length_drop]; omega, hus.append (.cons _ _ .nil), ?yy2, ?yy3, rfl, ?yy4⟩
          case yy2 => exact rfl
          case yy1 => rw [← hcodes]; simp
          case yy3 => rw [← slice_drop]; assumption
          case yy4 => exact rfl
      · repeat' ((fail_if_success (with_reducible show wpAny _ _ (subscriptTail _ _ (Value.str _ _) (Value.ref _)) _ _ _)); walk_at "my cstepL")
        refine slice_any (by rw [S_len, sizeLine_eq]; omega) fun h4 t4 tk4 k4 => ?_
        rw [slice_take]
        (rename Fr _ _ _ _ => F4; replace F4 := F4.after k4)
        (rename News _ _ _ _ => N4; replace N4 := News.keepsAll N4 k4)
        repeat' walk_at "my cstepL"
        refine contains_ok (p := p) (loose := loose) (mg := mg) (mb := mb) ?sk2 hroom fun h5 tk5 k5 => ?_
        case sk2 => exact S0.keep (Fr.keep (by assumption))
        (rename Fr _ _ _ _ => F5; replace F5 := F5.after k5)
        (rename News _ _ _ _ => N5; replace N5 := News.keepsAll N5 k5)
        rw [show kdpHas EX (S (pg.take (sizeL pg))) = true from hR]
        repeat' walk_at "my cstepL"
        refine getitem_ex_ok (p := p) (loose := loose) (mg := mg) (mb := mb) ?sk3 hroom hR fun h6 tk6 t6 k6 => ?_
        case sk3 => exact S0.keep (Fr.keep (by assumption))
        (rename Fr _ _ _ _ => F6; replace F6 := F6.after k6)
        (rename News _ _ _ _ => N6; replace N6 := News.keepsAll N6 k6)
        repeat' walk_at "my cstepL"
        (rename News _ _ _ _ => N6)
        (rename Fr _ _ _ _ => F6)
        have N7 : News s.heap s.heap.objs.size h6 [(ra, listOf us.toArray sp), (s.heap.objs.size + 1, o)] := fun p hp => N6 p (List.mem_cons_of_mem _ (List.mem_cons_of_mem _ (List.mem_cons_of_mem _ hp)))
        have hlr := hus.length
        have hdl : done.length ≤ 100 := by rw [← hcodes, List.length_append] at hcl100; omega
        refine append_K F6 N7 (.head ?zu) (fun h7 F7 N7' => ?_) (by rw [sizeLine_eq]; simp; omega)
        · intro p hp
          rw [List.mem_singleton.mp hp]
          exact Nat.ne_of_lt hcr
        clear N6 F6 N7
        repeat' walk_at "my cstepL"
        (rename News _ _ _ _ => N8)
        (rename Fr _ _ _ _ => F8)
        cases R with
        | nil => simp at hR; simp_all
        | other h2 => rw [h2] at hR; cases hR
        | @known _ codes' h2 hp r =>
          simp only [List.push_toArray] at N8
          refine TEnd.mk F8 N8 (fun p hp => hp) (fun p hp => nomatch hp) Apart.none ?_
          have hl1 := (sizeL_pos pg).1
          have hl2 := List.length_pos_iff.mpr hp
          refine ⟨(pg.drop (sizeL pg)).length, by rw [hn, List.length_drop]; omega, ?_⟩
          refine ⟨pg.drop (sizeL pg), done ++ [kdpLook EX (S (pg.take (sizeL pg))) 0], codes', us ++ [.int (kdpLook EX (S (pg.take (sizeL pg))) 0) t6], ?zsp2, ?zo2, ?zt2, r, ?zz1, rfl, by rw [List.length_drop]; omega, hus.append (.cons _ _ .nil), ?zz2, ?zz3, rfl, ?zz4⟩
          case zz2 => exact rfl
          case zz1 => rw [← hcodes]; simp
          case zz3 => rw [← slice_drop]; assumption
          case zz4 => exact rfl
end
-- steps
local macro_rules | `(tactic| walk_at "execs cons") => `(tactic| refine wpAny_execs_cons ?_)
-- one step, but no list of the text's own is read, made or measured
local macro_rules | `(tactic| walk_at "my stepS") => `(tactic| ((fail_if_success (with_reducible show wpAny _ _ (subscriptTail _ _ (Value.ref _) _) _ _ _)); (fail_if_success (with_reducible show wpAny _ _ (binaryOp Operator.Add (Value.ref _) (Value.ref _)) _ _ _)); (fail_if_success (with_reducible show wpAny _ _ (PySem.call (Value.builtin _) [Value.ref _] _) _ _ _)); walk_at "my step"))
local macro_rules | `(tactic| walk_at "my own1") => `(tactic| repeat (first | assumption | exact List.Mem.head _ | refine List.Mem.tail _ ?_))
section
variable {prog : Program} {w : World} {A : Around} {E : Value → Shared → Prop} {s : Shared} {env : Env} {h₀ : Heap} {pos : Pos} {Q : Flow → Shared → Prop}
/-- the end of a turn, with the numbers given out so far -/
def TEndT (h₀ : Heap) (L : Addr) (J : Nat → Inv) (s₁ : Shared) (Q : Flow → Shared → Prop) (f : Flow) (s₂ : Shared) : Prop :=
  match f with
  | .ret v => Q (.ret v) s₂
  | .brk => Q .next s₂
  | _ => ∃ h' tk m' nx, s₂ = { s₁ with heap := h', toks := tk } ∧ Fr h₀ L h' m' ∧ News h₀ L h' nx ∧ J tk m' nx
theorem TEndT.mk {L : Addr} {J : Nat → Inv} {s₁ : Shared} {h' : Heap} {tk : Nat} {m' : Str → Option Value} {nx : List (Addr × Obj)} (F : Fr h₀ L h' m') (N : News h₀ L h' nx)
    (hj : J tk m' nx) : TEndT h₀ L J s₁ Q .next { s₁ with heap := h', toks := tk } := ⟨h', tk, m', nx, rfl, F, N, hj⟩
theorem while_ruleT {test : Expr} {body orelse : List Stmt} {m : Str → Option Value} {nx : List (Addr × Obj)} (J : Nat → Nat → Inv) (n : Nat)
    (F : Fr h₀ env.locals s.heap m) (N : News h₀ env.locals s.heap nx) (hj : J n s.toks m nx)
    (turn : ∀ i m₁ nx₁ h tk, J i tk m₁ nx₁ → Fr h₀ env.locals h m₁ → News h₀ env.locals h nx₁ →
      wpAny (model prog w) A (isTrue test env (eval test env)) (fun b s₂ => if b = true then wpAny (model prog w) A (execs body env) (fun f s₃ => TEndT h₀ env.locals (fun tk' m nx => tk ≤ tk' → ∃ j, j < i ∧ J j tk' m nx) { s with heap := h, toks := tk } Q f s₃) E s₂
        else wpAny (model prog w) A (execs orelse env) Q E s₂) E { s with heap := h, toks := tk })
    (hE : PassesOwn (model prog w) A env E) :
    wpAny (model prog w) A (exec (.While test body orelse pos) env) Q E s := by
  refine wpAny_While (codeAny_whileLoop (fun k s' => ∃ h' tk m' nx', s' = { s with heap := h', toks := tk } ∧ Fr h₀ env.locals h' m' ∧ News h₀ env.locals h' nx' ∧ J k tk m' nx') ?_ n ⟨s.heap, s.toks, m, nx, rfl, F, N, hj⟩)
  rintro k s' ⟨h', tk, m', nx', rfl, F', N', hJ⟩
  refine wpAny_mono (wpAny_toks_of (n := tk) (Nat.le_refl _) (turn k m' nx' h' tk hJ F' N')) (fun b s₂ h₂ => ?_) fun _ _ e => hE _ _ e.2
  obtain ⟨hle, h₂⟩ := h₂
  cases b with
  | false =>
    simp only [Bool.false_eq_true, if_false] at h₂ ⊢
    exact wpAny_mono h₂ (fun _ _ x => x) fun _ _ e => hE _ _ e
  | true =>
    simp only [if_true] at h₂ ⊢
    refine wpAny_mono (wpAny_toks_of (n := tk) hle h₂) (fun f s₃ h₃ => ?_) fun _ _ e => hE _ _ e.2
    obtain ⟨hle3, h₃⟩ := h₃
    have key : (∃ h'' tk' m' nx, s₃ = { s with heap := h'', toks := tk' } ∧ Fr h₀ env.locals h'' m' ∧ News h₀ env.locals h'' nx ∧ (tk ≤ tk' → ∃ j, j < k ∧ J j tk' m' nx)) →
        ∃ j, j < k ∧ ∃ h' tk m' nx', s₃ = { s with heap := h', toks := tk } ∧ Fr h₀ env.locals h' m' ∧ News h₀ env.locals h' nx' ∧ J j tk m' nx' := by
      rintro ⟨h3, tk₃, m₂, nx₂, rfl, F₃, N₃, hJ₃⟩
      obtain ⟨j, hj, hJ₃⟩ := hJ₃ hle3
      exact ⟨j, hj, h3, tk₃, m₂, nx₂, rfl, F₃, N₃, hJ₃⟩
    cases f with
    | ret v => exact h₃
    | brk => exact h₃
    | cont => exact key h₃
    | next => exact key h₃
end
/-- a list in the ground or in the ledger -/
def RowIn (g : Heap) (nx : List (Addr × Obj)) (a : Addr) (vs : List Value) : Prop := g.IsList a vs.toArray ∨ (a, listOf vs.toArray 0) ∈ nx
theorem RowIn.at {g h : Heap} {L : Addr} {m : Str → Option Value} {nx nx' : List (Addr × Obj)} {a : Addr} {vs : List Value} (R : RowIn g nx a vs) (F : Fr g L h m) (N : News g L h nx') (hs : ∀ p ∈ nx, p ∈ nx') : h.IsList a vs.toArray := by
  rcases R with R | R
  · exact R.at fun o e => F.keep a o e
  · exact ⟨_, (N _ (hs _ R)).1, rfl, 0, rfl⟩
theorem RowIn.more {g : Heap} {nx nx' : List (Addr × Obj)} {a : Addr} {vs : List Value} (R : RowIn g nx a vs) (hs : ∀ p ∈ nx, p ∈ nx') : RowIn g nx' a vs := R.imp id (hs _)
structure Step where
  frm : Nat
  deed : Nat
  sg : List Nat
  to : Nat
inductive StepsOk (one two : Nat) : List Int → List Nat → Nat → List Step → Prop
  | nil {named : List Nat} {deed : Nat} : StepsOk one two [] named deed []
  | name {n : Nat} {r : List Int} {named : List Nat} {deed : Nat} {st : List Step} (h : StepsOk one two r (named ++ [n]) deed st) : StepsOk one two ((256 + (n : Int)) :: r) named deed st
  | deed {c : Nat} {r : List Int} {named : List Nat} {deed : Nat} {st : List Step} (h0 : c ≠ 0) (h13 : c ≠ 13) (hc : c < 256) (h : StepsOk one two r named c st) : StepsOk one two ((c : Int) :: r) named deed st
  | bare {a b : Nat} {r : List Int} {deed : Nat} {st : List Step} (h : StepsOk one two r [] deed st) : StepsOk one two (13 :: r) [a, b] deed (⟨a, deed, [], b⟩ :: st)
  | sign {a i c b : Nat} {r : List Int} {deed : Nat} {st : List Step} (hi : [one, two][i]? = some c) (h : StepsOk one two r [] deed st) : StepsOk one two (13 :: r) [a, 3 + i, b] deed (⟨a, deed, [c], b⟩ :: st)
def TupOf (v : Value) (st : Step) (vs : Array Value) (tk : Nat) : Prop := ∃ ta td ts tb, vs = #[.int st.frm ta, .int st.deed td, .str (S st.sg) ts, .int st.to tb] ∧ (st.sg ≠ [] → ts ≠ 0 ∧ ts < tk)
/-- a step as it lies in the ledger -/
def StepIn (nx : List (Addr × Obj)) (tk : Nat) (v : Value) (st : Step) : Prop := ∃ T vs, v = .ref T ∧ (T, { cls := .type "tuple", data := .seq vs }) ∈ nx ∧ TupOf v st vs tk
def StepAt (h : Heap) (tk : Nat) (v : Value) (st : Step) : Prop := ∃ T vs, v = .ref T ∧ h.IsTuple T vs ∧ TupOf v st vs tk
theorem StepIn.more {nx nx' : List (Addr × Obj)} {tk tk' : Nat} {v : Value} {st : Step} (P : StepIn nx tk v st) (hs : ∀ p ∈ nx, p ∈ nx') (hk : tk ≤ tk') : StepIn nx' tk' v st := by
  obtain ⟨T, vs, e, hm, ta, td, ts, tb, e2, h⟩ := P
  exact ⟨T, vs, e, hs _ hm, ta, td, ts, tb, e2, fun q => ⟨(h q).1, Nat.lt_of_lt_of_le (h q).2 hk⟩⟩
theorem StepIn.at {g h : Heap} {L : Addr} {nx : List (Addr × Obj)} {tk : Nat} {v : Value} {st : Step} (P : StepIn nx tk v st) (N : News g L h nx) : StepAt h tk v st := by
  obtain ⟨T, vs, e, hm, q⟩ := P
  exact ⟨T, vs, e, ⟨_, (N _ hm).1, rfl, _, rfl⟩, q⟩
theorem StepAt.keep {h h' : Heap} {tk tk' : Nat} {v : Value} {st : Step} (P : StepAt h tk v st) (k : Keep h h') (hk : tk ≤ tk') : StepAt h' tk' v st := by
  obtain ⟨T, vs, e, hm, ta, td, ts, tb, e2, h⟩ := P
  exact ⟨T, vs, e, hm.at fun o e => k T o e, ta, td, ts, tb, e2, fun q => ⟨(h q).1, Nat.lt_of_lt_of_le (h q).2 hk⟩⟩
theorem pick_tail (v : Value) (l : List Value) : (slicePick (v :: l).toArray (some 1) none none).toList = l := by
  have e : sliceBounds (some 1) none none (v :: l).toArray.size = (((1 : Nat) : Int), (((v :: l).toArray.size : Nat) : Int), 1) := by
    simp only [sliceBounds, Option.getD_none, show (1 : Int) > 0 by decide, if_true, if_neg (show ¬ ((1 : Int) < 0) by omega)]
    congr 1
    simp only [List.size_toArray, List.length_cons]
    omega
  rw [kmk_pick_nat _ e]
  simp
abbrev natV (n : Nat) : Int := (n : Int)
section
variable {w : World} {d u : Nat} {fr : Option (List Env)} {gs : Option (List Code)} {E : Value → Shared → Prop} {s : Shared} {p : Program} {loose : List Str} {mg mb : Str → Option Value} {Q : Value → Shared → Prop}
theorem getitem_tok_ok {l : List Nat} {i c : Nat} {ta tb : Tok} (S0 : Std w p loose mg mb s.heap) (hroom : d < recursionLimit) (hi : l[i]? = some c) (hl : l.length ≤ 1000)
    (k : ∀ h' tk t, t ≠ 0 → t < tk → Keep s.heap h' → Q (.str (S [c]) t) { s with heap := h', toks := tk }) :
    wpAny (model prog w) (Ar d fr gs u) (call (.ref 49) [.str (S l) ta, .int (i : Nat) tb] []) Q E s := by
  walk_at "my enter"
  repeat' ((fail_if_success (with_reducible show wpAny _ _ (subscriptTail _ _ (Value.str _ _) (Value.int _ _)) _ _ _)); walk_at "my step")
  refine item_S hi (by omega) ?_
  exact k _ _ _ (Nat.succ_ne_zero _) (Nat.lt_succ_self _) (Fr.keep (by assumption))
def StepsJ (g : Heap) (one two : Nat) (t1 : Tok) (sts : List Step) (i : Nat) (tk : Nat) : Inv := fun m nx => ∃ rest named deed rst ra rvs na nvs sa svs done td, StepsOk one two rest named deed rst ∧ i = rest.length ∧ named.length + rest.length ≤ 100 ∧ done.length + rest.length ≤ 100 ∧ done ++ rst = sts ∧ RowIn g nx ra rvs ∧ IntsAre rvs (rest ++ [0]) ∧ (na, listOf (List.toArray nvs) 0) ∈ nx ∧ IntsAre nvs (named.map natV) ∧ (sa, listOf (List.toArray svs) 0) ∈ nx ∧ Paired (StepIn nx tk) svs done ∧ m (Str.ofString "row") = some (.ref ra) ∧ m (Str.ofString "named") = some (.ref na) ∧ m (Str.ofString "steps") = some (.ref sa) ∧ m (Str.ofString "deed") = some (.int (natV deed) td) ∧ m (Str.ofString "letters") = some (.str (S [one, two]) t1)
theorem steps_ok {one two : Nat} {codes : List Int} {sts : List Step} {ra : Addr} {rvs : List Value} {t1 : Tok} (S0 : Std w p loose mg mb s.heap) (hroom : d + 1 < recursionLimit) (hl : codes.length ≤ 100)
    (hr : s.heap.IsList ra rvs.toArray) (hi : IntsAre rvs (codes ++ [0])) (R : StepsOk one two codes [] 0 sts)
    (k : ∀ h' a vs tk, Keep s.heap h' → h'.IsList a vs.toArray → Paired (StepAt h' tk) vs sts → Q (.ref a) { s with heap := h', toks := tk }) :
    wpAny (model prog w) (Ar d fr gs u) (call (.ref 99) [.ref ra, .str (S [one, two]) t1] []) Q E s := by
  have hroom' : d < recursionLimit := by omega
  walk_at "my enter"
  repeat' walk_at "my step"
  rename Fr _ _ _ _ => F
  rename News _ _ _ _ => N
  rename_i la _ _ lb _ _ lc _ _ _ _ _ _
  refine while_ruleT (StepsJ s.heap one two t1 sts) codes.length F N
    ⟨codes, [], 0, sts, ra, rvs, _, [], _, [], [], _, R, rfl, by simpa using hl, by simpa using hl, rfl, .inl hr, hi, .tail _ (.head _), .nil, .tail _ (.tail _ (.head _)), .nil, rfl, rfl, rfl, rfl, rfl⟩ ?_ PassesOwn.never
  rintro i m₁ nx₁ h tk ⟨rest, named, deed, rst, ra, rvs, na, nvs, sa, svs, done, td, R, hn, hl1, hl2, hsts, hrow, hri, hna, hni, hsa, hsi, e1, e2, e3, e4, e5⟩ F N
  replace F := reveal5 F e1 e2 e3 e4 e5
  obtain ⟨c0, r0, e0⟩ : ∃ c0 r0, rest ++ [0] = c0 :: r0 := by cases rest <;> exact ⟨_, _, rfl⟩
  have hri0 := hri
  rw [e0] at hri0
  obtain ⟨tc, rvs', rfl, hri'⟩ := hri0.cons_inv
  repeat' walk_at "my stepS"
  refine item_listL (x := .int c0 tc) (hrow.at (by assumption) (by assumption) (by walk_at "my own")) (by decide) (by decide) rfl ?_
  repeat' walk_at "my stepS"
  refine wpAny_with_toks (n := tk) (by first | exact Nat.le_refl _ | exact Nat.le_succ _ | exact Nat.le_add_right _ _) (eof_ok (p := p) (loose := loose) (mg := mg) (mb := mb) ?sk hroom fun h2 tk2 k2 htk2 => ?_)
  case sk => exact S0.keep (Fr.keep (by assumption))
  replace F := F.after k2
  replace N := News.keepsAll N k2
  repeat' walk_at "my stepS"
  · have e : rest = [] ∧ rst = [] := by
      cases R with
      | nil => exact ⟨rfl, rfl⟩
      | name => simp at e0; omega
      | deed h0 => simp at e0; omega
      | bare => simp at e0; omega
      | sign => simp at e0; omega
    obtain ⟨rfl, rfl⟩ := e
    rw [List.append_nil] at hsts
    subst hsts
    exact k _ _ _ _ (Fr.keep F) (kso_isList (s := { s with heap := h2 }) N hsa rfl) (hsi.mono fun v st q => (StepIn.more q (fun _ q => q) htk2).at N)
  have rowat : ∀ {h' m' nx'}, Fr s.heap s.heap.objs.size h' m' → News s.heap s.heap.objs.size h' nx' → (∀ q ∈ nx₁, q ∈ nx') → h'.IsList ra (Value.int c0 tc :: rvs').toArray := fun F N hs => hrow.at F N hs
  refine item_listL (x := .int c0 tc) (rowat (by assumption) (by assumption) (by walk_at "my own")) (by decide) (by decide) rfl ?_
  repeat' walk_at "my stepS"
  refine nonterminal_ok (p := p) (loose := loose) (mg := mg) (mb := mb) ?sk2 hroom fun h3 tk3 k3 => ?_
  case sk2 => exact S0.keep (Fr.keep (by assumption))
  replace F := F.after k3
  replace N := News.keepsAll N k3
  cases R with
  | nil => simp at e0; exact absurd e0.1.symm (by assumption)
  | @name n r _ _ _ R =>
    obtain ⟨rfl, rfl⟩ : (256 + (n : Int)) = c0 ∧ r ++ [0] = r0 := by simpa using e0
    rw [show decide ((256 + (n : Int)) ≥ 256) = true by simp; omega]
    repeat' walk_at "my stepS"
    refine item_listL (x := .int (256 + (n : Int)) tc) (rowat (by assumption) (by assumption) (by walk_at "my own")) (by decide) (by decide) rfl ?_
    repeat' walk_at "my stepS"
    refine sub_int_ok (p := p) (loose := loose) (mg := mg) (mb := mb) ?sk3 hroom fun h4 t4 tk4 k4 => ?_
    case sk3 => exact S0.keep (Fr.keep (by assumption))
    replace F := F.after k4
    replace N := News.keepsAll N k4
    repeat' walk_at "my stepS"
    (rename News _ _ _ _ => N4)
    (rename Fr _ _ _ _ => F4)
    refine kmk_add_ints F4 N4 (kso_isList N4 (List.mem_cons_of_mem _ hna) rfl) (kso_isList N4 (List.mem_cons_self ..) rfl) hni (.cons _ _ .nil) (fun D us h5 F5 N5 _ hI => ?_) (by rw [sizeLine_eq]; simp; omega)
    clear F4 N4
    repeat' walk_at "my stepS"
    (rename News _ _ _ _ => N6)
    (rename Fr _ _ _ _ => F6)
    refine kmk_slice_lit F6 N6 (rowat F6 N6 (by walk_at "my own")) (.int _ _) .none (pick_tail _ _) (fun D2 h7 F7 N7 _ => ?_) (by with_unfolding_all rfl) (by intro _; with_unfolding_all rfl) (by rw [sizeLine_eq]; simp [hri'.length]; simp at hl1; omega)
    clear F6 N6
    repeat' walk_at "my stepS"
    (rename News _ _ _ _ => N8)
    (rename Fr _ _ _ _ => F8)
    have en : named.map natV ++ [256 + (n : Int) - 256] = (named ++ [n]).map natV := by simp [natV]; omega
    rw [en] at hI
    simp only [List.length_cons] at hl1 hl2 hn
    refine TEndT.mk F8 N8 fun hle => ⟨r.length, by omega, r, named ++ [n], deed, rst, D2, rvs', D, us, sa, svs, done, td, R, rfl, by simp; omega, by omega, hsts, .inr (.head _), hri', .tail _ (.head _), hI,
      .tail _ (.tail _ (.tail _ hsa)), hsi.mono fun v st q => StepIn.more q (by walk_at "my own") hle, rfl, rfl, rfl, rfl, rfl⟩
  | @deed c r _ _ _ h0 h13 hc R =>
    obtain ⟨rfl, rfl⟩ : (c : Int) = c0 ∧ r ++ [0] = r0 := by simpa using e0
    rw [show decide ((c : Int) ≥ 256) = false by simp; omega]
    repeat' walk_at "my stepS"
    refine item_listL (x := .int (c : Int) tc) (rowat (by assumption) (by assumption) (by walk_at "my own")) (by decide) (by decide) rfl ?_
    repeat' walk_at "my stepS"
    rotate_left
    · omega
    refine item_listL (x := .int (c : Int) tc) (rowat (by assumption) (by assumption) (by walk_at "my own")) (by decide) (by decide) rfl ?_
    repeat' walk_at "my stepS"
    (rename News _ _ _ _ => N6)
    (rename Fr _ _ _ _ => F6)
    refine kmk_slice_lit F6 N6 (rowat F6 N6 (by walk_at "my own")) (.int _ _) .none (pick_tail _ _) (fun D2 h7 F7 N7 _ => ?_) (by with_unfolding_all rfl) (by intro _; with_unfolding_all rfl) (by rw [sizeLine_eq]; simp [hri'.length]; simp at hl1; omega)
    clear F6 N6
    repeat' walk_at "my stepS"
    (rename News _ _ _ _ => N8)
    (rename Fr _ _ _ _ => F8)
    simp only [List.length_cons] at hl1 hl2 hn
    refine TEndT.mk F8 N8 fun hle => ⟨r.length, by omega, r, named, c, rst, D2, rvs', na, nvs, sa, svs, done, _, R, rfl, by omega, by omega, hsts, .inr (.head _), hri', .tail _ hna, hni,
      .tail _ hsa, hsi.mono fun v st q => StepIn.more q (by walk_at "my own") hle, rfl, rfl, rfl, rfl, rfl⟩
  | @bare aa bb r _ st R =>
    obtain ⟨rfl, rfl⟩ : (13 : Int) = c0 ∧ r ++ [0] = r0 := by simpa using e0
    rw [show decide ((13 : Int) ≥ 256) = false by decide]
    repeat' walk_at "my stepS"
    refine item_listL (x := .int 13 tc) (rowat (by assumption) (by assumption) (by walk_at "my own")) (by decide) (by decide) rfl ?_
    repeat' walk_at "my stepS"
    have hni2 : IntsAre nvs [natV aa, natV bb] := hni
    obtain ⟨u1, w1, rfl, hn2⟩ := hni2.cons_inv
    obtain ⟨u2, w2, rfl, hn3⟩ := hn2.cons_inv
    obtain rfl := hn3.nil_inv
    refine len_list (items := List.toArray [.int (natV aa) u1, .int (natV bb) u2]) (kso_isList N hna rfl) (by simp) ?_
    repeat' walk_at "my stepS"
    · (rename (2 : Int) < _ => hb); simp at hb
    refine item_listL (x := .int (natV aa) u1) (kso_isList (by assumption) (by walk_at "my own1") rfl) (by decide) (by decide) rfl ?_
    repeat' walk_at "my stepS"
    refine item_list_ints_negR (ns := [natV aa, natV bb]) (vs := [.int (natV aa) u1, .int (natV bb) u2]) (kso_isList (by assumption) (by walk_at "my own1") rfl) (.cons _ _ (.cons _ _ .nil)) (by decide) (by simp) (by decide) fun t9 => ?_
    repeat' walk_at "my stepS"
    (rename News _ _ _ _ => N4)
    (rename Fr _ _ _ _ => F4)
    refine kmk_add_lit F4 N4 (kso_isList N4 (by walk_at "my own1") rfl) (kso_isList N4 (List.mem_cons_self ..) rfl) rfl (fun D h5 F5 N5 _ => ?_) (by rw [sizeLine_eq]; simp [hsi.length]; simp at hl2; omega)
    clear F4 N4
    repeat' walk_at "my stepS"
    (rename News _ _ _ _ => N6)
    (rename Fr _ _ _ _ => F6)
    refine kmk_slice_lit F6 N6 (rowat F6 N6 (by walk_at "my own")) (.int _ _) .none (pick_tail _ _) (fun D2 h7 F7 N7 _ => ?_) (by with_unfolding_all rfl) (by intro _; with_unfolding_all rfl) (by rw [sizeLine_eq]; simp [hri'.length]; simp at hl1; omega)
    clear F6 N6
    repeat' walk_at "my stepS"
    (rename News _ _ _ _ => N8)
    (rename Fr _ _ _ _ => F8)
    simp only [List.length_cons] at hl1 hl2 hn
    refine TEndT.mk F8 N8 fun hle => ⟨r.length, by omega, r, [], deed, st, D2, rvs', _, [], D, svs ++ [_], done ++ [⟨aa, deed, [], bb⟩], td, R, rfl, by simp; omega, by simp; omega, by simpa using hsts, .inr (.head _), hri', .tail _ (by walk_at "my own1"), .nil,
      by walk_at "my own1", (hsi.mono fun v st q => StepIn.more q (by walk_at "my own") hle).snoc ⟨_, _, rfl, by walk_at "my own1", _, _, _, _, rfl, fun q => absurd rfl q⟩, rfl, rfl, rfl, rfl, rfl⟩
  | @sign aa ii cc bb r _ st hii R =>
    obtain ⟨rfl, rfl⟩ : (13 : Int) = c0 ∧ r ++ [0] = r0 := by simpa using e0
    rw [show decide ((13 : Int) ≥ 256) = false by decide]
    repeat' walk_at "my stepS"
    refine item_listL (x := .int 13 tc) (rowat (by assumption) (by assumption) (by walk_at "my own")) (by decide) (by decide) rfl ?_
    repeat' walk_at "my stepS"
    have hni2 : IntsAre nvs [natV aa, natV (3 + ii), natV bb] := hni
    obtain ⟨u1, w1, rfl, hn2⟩ := hni2.cons_inv
    obtain ⟨u2, w2, rfl, hn3⟩ := hn2.cons_inv
    obtain ⟨u3, w3, rfl, hn4⟩ := hn3.cons_inv
    obtain rfl := hn4.nil_inv
    refine len_list (items := List.toArray [.int (natV aa) u1, .int (natV (3 + ii)) u2, .int (natV bb) u3]) (kso_isList N hna rfl) (by simp) ?_
    repeat' walk_at "my stepS"
    rotate_left
    · (rename ¬ ((2 : Int) < _) => hb); simp at hb
    refine item_listL (x := .int (natV (3 + ii)) u2) (kso_isList (by assumption) (by walk_at "my own1") rfl) (by decide) (by decide) rfl ?_
    repeat' walk_at "my stepS"
    refine sub_int_ok (p := p) (loose := loose) (mg := mg) (mb := mb) ?sk5 hroom fun h4 t4 tk4 k4 => ?_
    case sk5 => exact S0.keep (Fr.keep (by assumption))
    replace F := F.after k4
    replace N := News.keepsAll N k4
    rw [show natV (3 + ii) - 3 = ((ii : Nat) : Int) by simp [natV]; omega]
    repeat' walk_at "my stepS"
    refine getitem_tok_ok (p := p) (loose := loose) (mg := mg) (mb := mb) ?sk6 hroom hii (by simp) fun h6 tk6 t6 ht0 ht6 k6 => ?_
    case sk6 => exact S0.keep (Fr.keep (by assumption))
    replace F := F.after k6
    replace N := News.keepsAll N k6
    repeat' ((fail_if_success (with_reducible show wpAny _ _ (execs _ _) _ _ _)); walk_at "my stepS")
    refine wpAny_with_toks (n := tk6) (by first | exact Nat.le_refl _ | exact Nat.le_succ _ | exact Nat.le_add_right _ _) ?_
    repeat' walk_at "my stepS"
    refine item_listL (x := .int (natV aa) u1) (kso_isList (by assumption) (by walk_at "my own1") rfl) (by decide) (by decide) rfl ?_
    repeat' walk_at "my stepS"
    refine item_list_ints_negR (ns := [natV aa, natV (3 + ii), natV bb]) (vs := [.int (natV aa) u1, .int (natV (3 + ii)) u2, .int (natV bb) u3]) (kso_isList (by assumption) (by walk_at "my own1") rfl) (.cons _ _ (.cons _ _ (.cons _ _ .nil))) (by decide) (by simp) (by decide) fun t9 => ?_
    repeat' walk_at "my stepS"
    (rename News _ _ _ _ => N4)
    (rename Fr _ _ _ _ => F4)
    refine kmk_add_lit F4 N4 (kso_isList N4 (by walk_at "my own1") rfl) (kso_isList N4 (List.mem_cons_self ..) rfl) rfl (fun D h5 F5 N5 _ => ?_) (by rw [sizeLine_eq]; simp [hsi.length]; simp at hl2; omega)
    clear F4 N4
    repeat' walk_at "my stepS"
    (rename tk6 ≤ _ => htk7)
    (rename News _ _ _ _ => N6)
    (rename Fr _ _ _ _ => F6)
    refine kmk_slice_lit F6 N6 (rowat F6 N6 (by walk_at "my own")) (.int _ _) .none (pick_tail _ _) (fun D2 h7 F7 N7 _ => ?_) (by with_unfolding_all rfl) (by intro _; with_unfolding_all rfl) (by rw [sizeLine_eq]; simp [hri'.length]; simp at hl1; omega)
    clear F6 N6
    repeat' walk_at "my stepS"
    (rename News _ _ _ _ => N8)
    (rename Fr _ _ _ _ => F8)
    simp only [List.length_cons] at hl1 hl2 hn
    refine TEndT.mk F8 N8 fun hle => ⟨r.length, by omega, r, [], deed, st, D2, rvs', _, [], D, svs ++ [_], done ++ [⟨aa, deed, [cc], bb⟩], td, R, rfl, by simp; omega, by simp; omega, by simpa using hsts, .inr (.head _), hri', .tail _ (by walk_at "my own1"), .nil,
      by walk_at "my own1", (hsi.mono fun v st q => StepIn.more q (by walk_at "my own") hle).snoc ⟨_, _, rfl, by walk_at "my own1", _, _, t6, _, rfl, fun _ => ⟨ht0, Nat.lt_of_lt_of_le ht6 (Nat.le_trans htk7 (by repeat (first | exact Nat.le_refl _ | refine Nat.le_succ_of_le ?_)))⟩⟩, rfl, rfl, rfl, rfl, rfl⟩
end
-- itersT
section
variable {prog : Program} {w : World} {A : Around} {E : Value → Shared → Prop} {s : Shared} {env : Env} {h₀ : Heap} {pos : Pos} {Q : Flow → Shared → Prop}
theorem for_ruleT {n0 : Nat} {target : Expr} {body orelse : List Stmt} {I : Addr} {fp wr : List Addr} {n : Nat} {P : Nat → Value → Prop} {St : Nat → Heap → Prop} {m : Str → Option Value} {nx : List (Addr × Obj)}
    (J : Nat → Inv) (W : Walks prog w A I fp wr n P St) (go : Goes prog w A target I n P St) (hLf : env.locals ∉ fp) (hwr : ∀ b ∈ wr, h₀.get? b = none) (hfp : ∀ q ∈ nx, q.1 ∉ fp) (hst : St 0 s.heap)
    (hI : ∀ i h, St i h → ∀ b ∈ fp, ∃ o, h.get? b = some o)
    (F : Fr h₀ env.locals s.heap m) (N : News h₀ env.locals s.heap nx) (hj : J 0 m nx) (htk : n0 ≤ s.toks)
    (turn : ∀ i v m₁ nx₁ h tk own, i < n → P i v → n0 ≤ tk → Apart nx₁ own → J i m₁ nx₁ → Fr h₀ env.locals h m₁ → News h₀ env.locals h (nx₁ ++ own) →
      wpAny (model prog w) A (assign target env v) (fun _ s₂ => wpAny (model prog w) A (execs body env) (fun f s₃ => TEnd h₀ env.locals (J (i + 1)) own { s with heap := h, toks := tk } Q f s₃) E s₂) E { s with heap := h, toks := tk })
    (done : ∀ m₁ nx₁ h tk, n0 ≤ tk → J n m₁ nx₁ → Fr h₀ env.locals h m₁ → News h₀ env.locals h nx₁ → wpAny (model prog w) A (execs orelse env) Q E { s with heap := h, toks := tk })
    (hE : PassesOwn (model prog w) A env E) :
    codeAny (model prog w) A (.forLoop target (.ref I) body orelse env) (fun r s' => match r with | .ok f => Q f s' | .error e => cameBackBy (model prog w) A env E e s') s :=
  for_ruleO (n0 := n0) (OK := fun _ => True) J W go hLf hwr hfp hst (fun i h st b hb => let ⟨o, ho⟩ := hI i h st b hb; ⟨o, ho, trivial⟩) F N hj htk
    (fun i v m₁ nx₁ h tk own hi hP hk _ ap hJ F N => turn i v m₁ nx₁ h tk own hi hP hk ap hJ F N) done hE
end
section
variable {prog : Program} {w : World} {A : Around} {E : Value → Shared → Prop} {s : Shared} {env : Env} {h₀ : Heap} {Q : Flow → Shared → Prop} {target : Expr} {body orelse : List Stmt} {m : Str → Option Value} {nx : List (Addr × Obj)}
abbrev TurnT (n0 : Nat) (prog : Program) (w : World) (A : Around) (env : Env) (h₀ : Heap) (target : Expr) (body : List Stmt) (J : Nat → Inv) (Q : Flow → Shared → Prop) (E : Value → Shared → Prop) (s : Shared) (i : Nat) (v : Value) : Prop :=
  ∀ m₁ nx₁ h tk own, n0 ≤ tk → Apart nx₁ own → J i m₁ nx₁ → Fr h₀ env.locals h m₁ → News h₀ env.locals h (nx₁ ++ own) →
    wpAny (model prog w) A (assign target env v) (fun _ s₂ => wpAny (model prog w) A (execs body env) (fun f s₃ => TEnd h₀ env.locals (J (i + 1)) own { s with heap := h, toks := tk } Q f s₃) E s₂) E { s with heap := h, toks := tk }
abbrev DoneT (n0 : Nat) (prog : Program) (w : World) (A : Around) (env : Env) (h₀ : Heap) (orelse : List Stmt) (J : Inv) (Q : Flow → Shared → Prop) (E : Value → Shared → Prop) (s : Shared) : Prop :=
  ∀ m₁ nx₁ h tk, n0 ≤ tk → J m₁ nx₁ → Fr h₀ env.locals h m₁ → News h₀ env.locals h nx₁ → wpAny (model prog w) A (execs orelse env) Q E { s with heap := h, toks := tk }
theorem iter_listT {n0 : Nat} {l : Addr} {items : Array Value} (J : Nat → Inv) (hh : A.handled = none) (hl : s.heap.IsList l items) (hL : l ≠ env.locals) (hx : ∀ q ∈ nx, q.1 ≠ l)
    (F : Fr h₀ env.locals s.heap m) (N : News h₀ env.locals s.heap nx) (hj : J 0 m nx) (htk : n0 ≤ s.toks)
    (turn : ∀ i v, items[i]? = some v → TurnT n0 prog w A env h₀ target body J Q E s i v) (done : DoneT n0 prog w A env h₀ orelse (J items.size) Q E s) (hE : PassesOwn (model prog w) A env E) :
    wpAny (model prog w) A (pyIter (.ref l)) (LoopX prog w A env target body orelse Q E) E s := by
  have idX := hl
  obtain ⟨ol, hol, hlr⟩ := idX
  have hne : l ≠ s.heap.objs.size := Nat.ne_of_lt (Heap.lt_size hol)
  refine wpAny_pyIter_list hl ?_
  refine for_ruleT (n0 := n0) (St := fun i h => h.IsListIter s.heap.objs.size l i ∧ h.IsList l items) J (Walks.list hh s.heap.objs.size l hne items) (fun i s' v Q' E' _ _ st h => letGo_listiter st.1 h) ?_ ?_ ?_ ⟨⟨_, Heap.get?_push_size _ rfl, rfl, rfl⟩, hl.at fun o e => Heap.get?_push_of_some _ e⟩ ?_ (F.push _) (push_news N _) hj htk ?_ ?_ hE
  · intro hm
    rcases List.mem_cons.mp hm with e | hm
    · exact absurd F.ns.lt (e ▸ Nat.lt_irrefl _)
    · exact hL (List.mem_singleton.mp hm).symm
  · intro b hb
    rw [List.mem_singleton.mp hb]
    exact next_is_new F
  · intro q hq hm
    rcases List.mem_cons.mp hm with e | hm
    · exact absurd (Heap.lt_size (N q hq).1) (e ▸ Nat.lt_irrefl _)
    · exact hx q hq (List.mem_singleton.mp hm)
  · intro i h st b hb
    rcases List.mem_cons.mp hb with rfl | hb
    · obtain ⟨o, ho, _⟩ := st.1; exact ⟨o, ho⟩
    · rw [List.mem_singleton.mp hb]; obtain ⟨o, ho, _⟩ := st.2; exact ⟨o, ho⟩
  · intro i v m₁ nx₁ h tk own _ hP
    exact turn i v hP m₁ nx₁ h tk own
  · exact done
theorem iter_rangeT {n0 : Nat} {r : Addr} {b : Int} {t u v : Tok} (J : Nat → Inv) (hh : A.handled = none) (hr : IsRange s.heap r 0 b 1 t u v) (h0 : 0 ≤ b) (h1 : b < 2 ^ 62)
    (F : Fr h₀ env.locals s.heap m) (N : News h₀ env.locals s.heap nx) (hj : J 0 m nx) (htk : n0 ≤ s.toks)
    (turn : ∀ i : Nat, ∀ tk, (i : Int) < b → TurnT n0 prog w A env h₀ target body J Q E s i (.int i tk)) (done : DoneT n0 prog w A env h₀ orelse (J b.toNat) Q E s) (hE : PassesOwn (model prog w) A env E)
    (go : ∀ I : Addr, Goes prog w A target I b.toNat (fun i v => ∃ t, v = .int (0 + i * 1) t) (fun i h => IsRangeIter h I (0 + (i : Nat) * 1) ((b.toNat : Int) - (i : Nat)) 1)) :
    wpAny (model prog w) A (pyIter (.ref r)) (LoopX prog w A env target body orelse Q E) E s := by
  refine wpAny_pyIter_range hr (small_one (by omega) (by omega) (by omega) h1) ?_
  intros
  have W := Walks.range (prog := prog) (w := w) hh s.heap.objs.size 0 1 b.toNat
  have hsz : Builtin.Range.rangeSize 0 b 1 = b := by rw [rangeSize_one]; split <;> omega
  refine for_ruleT (n0 := n0) J W (go _) ?_ ?_ ?_ ?_ ?_ (F.push _) (push_news N _) hj htk ?_ ?_ hE
  · intro hm
    exact absurd F.ns.lt ((List.mem_singleton.mp hm) ▸ Nat.lt_irrefl _)
  · intro b' hb
    rw [List.mem_singleton.mp hb]
    exact next_is_new F
  · intro q hq hm
    exact absurd (Heap.lt_size (N q hq).1) ((List.mem_singleton.mp hm) ▸ Nat.lt_irrefl _)
  · have e1 : (0 : Int) + ((0 : Nat) : Int) * 1 = 0 := by simp
    have e2 : (b.toNat : Int) - ((0 : Nat) : Int) = b := by omega
    show IsRangeIter _ _ (0 + ((0 : Nat) : Int) * 1) ((b.toNat : Int) - ((0 : Nat) : Int)) 1
    rw [e1, e2, hsz]
    exact Heap.get?_push_size _ rfl
  · intro i h st b' hb
    rw [List.mem_singleton.mp hb]; exact ⟨_, st⟩
  · rintro i v' m₁ nx₁ h tk own hi ⟨tt, rfl⟩
    have e : (0 : Int) + (i : Int) * 1 = i := by omega
    rw [e]
    exact turn i tt (by omega) m₁ nx₁ h tk own
  · exact done
end
-- sorttree
/-- whatever is answered, what is asked lies below n, and what comes out fulfils P -/
def TreeOk {α : Type} (n : Nat) (P : α → Prop) : KasT α → Prop
  | .ret a => P a
  | .ask i j k => i < n ∧ j < n ∧ ∀ b, TreeOk n P (k b)
theorem treeOk_bind {α β : Type} {n : Nat} {P : α → Prop} {R : β → Prop} {f : α → KasT β} (hf : ∀ a, P a → TreeOk n R (f a)) : ∀ t : KasT α, TreeOk n P t → TreeOk n R (t.bind f)
  | .ret a, h => hf a h
  | .ask _ _ k, h => ⟨h.1, h.2.1, fun b => treeOk_bind hf (k b) (h.2.2 b)⟩
theorem treeOk_wp {α : Type} {n : Nat} {P : α → Prop} {I : Shared → Prop} {cmp : Nat → Nat → (Bool → Shared → Prop) → Shared → Prop} {Q : α → Shared → Prop}
    (hask : ∀ i j C s, i < n → j < n → I s → (∀ b s', I s' → C b s') → cmp i j C s) (hQ : ∀ a s, P a → I s → Q a s) : ∀ (t : KasT α) (s : Shared), TreeOk n P t → I s → t.kasWp cmp Q s
  | .ret a, s, h, hI => hQ a s h hI
  | .ask i j k, s, h, hI => hask i j _ s h.1 h.2.1 hI fun b s' hI' => treeOk_wp hask hQ (k b) s' (h.2.2 b) hI'
def PermN (n : Nat) (p : Array Nat) : Prop := p.toList.Perm (List.range n)
theorem permN_lt {n : Nat} {p : Array Nat} (h : PermN n p) (hn : 0 < n) (i : Nat) : p.getD i 0 < n := by
  by_cases hi : i < p.size
  · have e : p.getD i 0 = p[i] := by simp [Array.getD, hi]
    rw [e]
    exact List.mem_range.mp (h.mem_iff.mp (by rw [← Array.mem_def]; exact Array.getElem_mem hi))
  · have e : p.getD i 0 = 0 := by simp [Array.getD, hi]
    rw [e]; exact hn
theorem permN_rev {n : Nat} {p : Array Nat} (h : PermN n p) (i j : Nat) : PermN n (kas_rev p i j) := (Array.perm_iff_toList_perm.mp (mirror_perm p i j _)).trans h
theorem permN_bubble {n : Nat} {p : Array Nat} (h : PermN n p) (i j : Nat) : PermN n (bubble p i j) := (Array.perm_iff_toList_perm.mp (bubble_perm p i j)).trans h
section
variable {n : Nat}
theorem tree_asc (hn : 0 < n) {p : Array Nat} (h : PermN n p) : ∀ f m, TreeOk n (fun _ : Nat => True) (kas_asc p f m)
  | 0, _ => trivial
  | f + 1, m => ⟨permN_lt h hn _, permN_lt h hn _, fun b => by
    cases b
    · exact tree_asc hn h f (m + 1)
    · exact trivial⟩
theorem tree_desc (hn : 0 < n) : ∀ f (p : Array Nat) m q, PermN n p → TreeOk n (fun r : Array Nat × Nat × Nat => PermN n r.1) (kas_desc f p m q)
  | 0, _, _, _, h => h
  | f + 1, p, m, q, h => ⟨permN_lt h hn _, permN_lt h hn _, fun b => by
    cases b
    · refine ⟨permN_lt h hn _, permN_lt h hn _, fun b => ?_⟩
      cases b
      · exact tree_desc hn f p (m + 1) (q + 1) h
      · exact h
    · show TreeOk n _ (if q > 0 then _ else _)
      split
      · exact tree_desc hn f _ _ _ (permN_rev h _ _)
      · exact tree_desc hn f p _ _ h⟩
theorem tree_tail3 (hn : 0 < n) {p : Array Nat} (h : PermN n p) (m r : Nat) : TreeOk n (fun r : Nat × Array Nat => PermN n r.2) (kas_tail3 m r p) :=
  treeOk_bind (fun a _ => by show PermN n (kas_rev p 0 m); exact permN_rev h _ _) _ (tree_asc hn (permN_rev h _ _) _ _)
theorem tree_descPart (hn : 0 < n) {p : Array Nat} (h : PermN n p) (m r : Nat) : TreeOk n (fun r : Nat × Array Nat => PermN n r.2) (kas_descPart m r p) :=
  treeOk_bind (fun a ha => by
    show TreeOk n _ (if _ then _ else _)
    split
    · exact tree_tail3 hn (permN_rev ha _ _) _ _
    · exact tree_tail3 hn ha _ _) _ (tree_desc hn _ _ _ _ h)
theorem tree_count (hn : 0 < n) {p : Array Nat} (h : PermN n p) (r : Nat) : TreeOk n (fun r : Nat × Array Nat => PermN n r.2) (kas_count r p) :=
  treeOk_bind (fun m _ => by
    show TreeOk n _ (if _ then _ else if _ then _ else _)
    split
    · exact h
    · split
      · refine ⟨permN_lt h hn _, permN_lt h hn _, fun b => ?_⟩
        cases b
        · exact tree_descPart hn (permN_rev h _ _) _ _
        · exact h
      · exact tree_descPart hn h _ _) _ (tree_asc hn h _ _)
theorem tree_place (hn : 0 < n) {p : Array Nat} (h : PermN n p) (k : Nat) : ∀ f l r, TreeOk n (fun _ : Nat => True) (kas_place p k f l r)
  | 0, _, _ => trivial
  | f + 1, l, r => by
    unfold kas_place
    split
    · exact trivial
    · refine ⟨permN_lt h hn _, permN_lt h hn _, fun b => ?_⟩
      cases b
      · exact tree_place hn h k f _ _
      · exact tree_place hn h k f _ _
theorem tree_bin (hn : 0 < n) : ∀ f (p : Array Nat) k, PermN n p → TreeOk n (PermN n) (kas_bin f p k)
  | 0, _, _, h => h
  | f + 1, p, k, h => treeOk_bind (fun l _ => tree_bin hn f _ _ (permN_bubble h _ _)) _ (tree_place hn h k _ _ _)
theorem tree_sort (hn : 0 < n) : TreeOk n (PermN n) (kas_sort n) :=
  treeOk_bind (fun r hr => by
    show TreeOk n _ (if _ then _ else _)
    split
    · exact tree_bin hn _ _ _ hr
    · exact hr) _ (tree_count hn (p := List.toArray (List.range n)) (show (List.range n).Perm _ from .refl _) n)
end
local macro_rules | `(tactic| walk_at "execs cons") => `(tactic| refine wpAny_execs_cons ?_)
local macro_rules | `(tactic| walk_at "execs nil") => `(tactic| refine wpAny_execs_nil ?_)
local macro_rules | `(tactic| walk_at "my own1") => `(tactic| repeat (first | assumption | exact List.Mem.head _ | refine List.Mem.tail _ ?_))
local macro_rules | `(tactic| walk_at "my stepS") => `(tactic| ((fail_if_success (with_reducible show wpAny _ _ (subscriptTail _ _ (Value.ref _) _) _ _ _)); (fail_if_success (with_reducible show wpAny _ _ (binaryOp Operator.Add (Value.ref _) (Value.ref _)) _ _ _)); (fail_if_success (with_reducible show wpAny _ _ (PySem.call (Value.builtin _) [Value.ref _] _) _ _ _)); walk_at "my step"))
local macro_rules | `(tactic| walk_at "my stepW") => `(tactic| ((fail_if_success (with_reducible show wpAny _ _ (eval (Expr.Lambda _ _ _ _) _) _ _ _)); (fail_if_success (with_reducible show wpAny _ _ (pyIter _) _ _ _)); (fail_if_success (with_reducible show wpAny _ _ (eval (Expr.ListComp _ _ _ _) _) _ _ _)); walk_at "my stepS"))
local macro_rules | `(tactic| walk_at "exec If") => `(tactic| refine wpAny_If ?_)
local macro_rules | `(tactic| walk_at "my stepN") => `(tactic| repeat' ((fail_if_success (with_reducible show wpAny _ _ (eval (Expr.Name _ _) _) _ _ _)); walk_at "my step"))
-- done
-- what a text is when each sign of one kind becomes a text of its own
theorem flat_free (c : Nat) (z : List Nat) : ∀ l : List Nat, c ∉ l → (l.flatMap fun x => if x = c then z else [x]) = l
  | [], _ => rfl
  | k :: r, h => by
    have h1 : ¬ k = c := fun e => h (e ▸ List.mem_cons_self ..)
    have h2 : c ∉ r := fun m => h (List.mem_cons_of_mem _ m)
    rw [List.flatMap_cons, if_neg h1, flat_free c z r h2]; rfl
theorem flat_join (c : Nat) (z : List Nat) : ∀ parts : List Str, (∀ p ∈ parts, c ∉ p.cps.toList) → ((Str.join ⟨#[c]⟩ parts).cps.toList.flatMap fun x => if x = c then z else [x]) = (Str.join (S z) parts).cps.toList
  | [], _ => rfl
  | [p], h => flat_free c z _ (h p (List.mem_singleton.mpr rfl))
  | p :: q :: r, h => by
    have ih := flat_join c z (q :: r) fun a ha => h a (List.mem_cons_of_mem _ ha)
    show ((p ++ ⟨#[c]⟩ ++ Str.join ⟨#[c]⟩ (q :: r)).cps.toList.flatMap fun x => if x = c then z else [x]) = (p ++ S z ++ Str.join (S z) (q :: r)).cps.toList
    simp only [PySem.Str.cps_append, Array.toList_append, List.flatMap_append]
    rw [ih, flat_free c z _ (h p (List.mem_cons_self ..))]
    simp
theorem replace_S (q z : List Nat) (c : Nat) : Txt.replace (S q) (S [c]) (S z) = S (q.flatMap fun x => if x = c then z else [x]) := by
  refine PySem.Str.ext' (Array.toList_inj.mp ?_)
  have h := StrLaws.replace_one (S q) (S z) c
  rw [show (⟨#[c]⟩ : Str) = S [c] from rfl] at h
  rw [h, ← flat_join c z _ (StrLaws.split_free (S q) c), StrLaws.join_split]
/-- what is left behind a read of one sign -/
def readL (c : Nat) (q : List Nat) : Option (List Nat) := (q.idxOf? c).map fun i => q.drop (i + 1)
def readsL (c : Nat) : Nat → List Nat → Option (List Nat)
  | 0, q => some q
  | n + 1, q => (readsL c n q).bind (readL c)
theorem reads_none {c : Nat} {q qi : List Nat} {i : Nat} (h : readsL c i q = some qi) (hno : c ∉ qi) : ∀ n, i < n → readsL c n q = none
  | n + 1, hn => by
    by_cases e : i = n
    · subst e
      show (readsL c i q).bind (readL c) = none
      rw [h]
      show readL c qi = none
      unfold readL
      rw [List.idxOf?_eq_none_iff.mpr hno]; rfl
    · show (readsL c n q).bind (readL c) = none
      rw [reads_none h hno n (by omega)]; rfl
theorem reads_len {c : Nat} : ∀ {n : Nat} {q r : List Nat}, readsL c n q = some r → r.length ≤ q.length
  | 0, q, r, h => by cases h; exact Nat.le_refl _
  | n + 1, q, r, h => by
    change (readsL c n q).bind (readL c) = some r at h
    cases hq : readsL c n q with
    | none => rw [hq] at h; cases h
    | some qi =>
      rw [hq] at h
      have h1 := reads_len hq
      change readL c qi = some r at h
      unfold readL at h
      cases hi : qi.idxOf? c with
      | none => rw [hi] at h; cases h
      | some i => rw [hi] at h; cases h; rw [List.length_drop]; omega
def doneL (one two : Nat) (deed : Int) (sg q : List Nat) : List (List Nat) :=
  if deed = 21 then [q ++ sg] else if deed = 34 then [q ++ (sg ++ sg)]
  else if deed = 20 then (readsL (sg.headD 0) 1 q).toList else if deed = 33 then (readsL (sg.headD 0) 2 q).toList
  else if deed = 32 then [q.map (swapL one two)] else if deed = 35 then [q.flatMap fun x => [x, x]] else if deed = 31 then [q.reverse] else [q]
theorem swap_flat {one two : Nat} (h12 : one ≠ two) (h1 : one ≠ 46) (h2 : two ≠ 46) : ∀ q : List Nat, (∀ x ∈ q, x = one ∨ x = two) →
    (((q.flatMap fun x => if x = one then [46] else [x]).flatMap fun x => if x = two then [one] else [x]).flatMap fun x => if x = 46 then [two] else [x]) = q.map (swapL one two)
  | [], _ => rfl
  | c :: r, h => by
    have ih := swap_flat h12 h1 h2 r fun x m => h x (.tail _ m)
    simp only [List.flatMap_cons, List.flatMap_append, List.map_cons, ih]
    rcases h c (.head _) with rfl | rfl
    · simp [swapL, Ne.symm h2]
    · simp [swapL, h1, Ne.symm h12]
theorem twice_flat {one two : Nat} (h12 : one ≠ two) : ∀ q : List Nat, (∀ x ∈ q, x = one ∨ x = two) →
    ((q.flatMap fun x => if x = one then [one, one] else [x]).flatMap fun x => if x = two then [two, two] else [x]) = q.flatMap fun x => [x, x]
  | [], _ => rfl
  | c :: r, h => by
    have ih := twice_flat h12 r fun x m => h x (.tail _ m)
    simp only [List.flatMap_cons, List.flatMap_append, ih]
    rcases h c (.head _) with rfl | rfl
    · simp [h12]
    · simp [Ne.symm h12]
theorem flat_one_len (a b : Nat) : ∀ q : List Nat, (q.flatMap fun x => if x = a then [b] else [x]).length = q.length
  | [] => rfl
  | c :: r => by rw [List.flatMap_cons, List.length_append, flat_one_len a b r]; split <;> simp <;> omega
theorem flat_two_len (a b : Nat) : ∀ q : List Nat, (q.flatMap fun x => if x = a then [b, b] else [x]).length ≤ 2 * q.length
  | [] => by simp
  | c :: r => by rw [List.flatMap_cons, List.length_append, List.length_cons]; have := flat_two_len a b r; split <;> simp only [List.length_cons, List.length_nil] <;> omega
theorem texts_nil {g h' : Heap} {L a : Addr} {news : List (Addr × Obj)} {n : Nat} (N : News g L h' news) (hm : (a, listOf #[] n) ∈ news) : TextsAt h' a [] :=
  ⟨[], ⟨_, (N _ hm).1, rfl, n, rfl⟩, [], rfl, rfl⟩
theorem texts_one {g h' : Heap} {L a : Addr} {news : List (Addr × Obj)} {x : List Nat} {t : Tok} {n : Nat} (N : News g L h' news) (hm : (a, listOf #[Value.str (S x) t] n) ∈ news) : TextsAt h' a [x] :=
  ⟨[.str (S x) t], ⟨_, (N _ hm).1, rfl, n, rfl⟩, [(x, t)], rfl, rfl⟩
theorem add_tok {prog : Program} {w : World} {A : Around} {E : Value → Shared → Prop} {s : Shared} {x y : Str} {t u : Tok} {Q : Value → Shared → Prop} (hx : x.length ≠ 0) (hy : y.length ≠ 0) (hs : (x ++ y).length ≤ sizeLine)
    (h : Q (.str (x ++ y) s.toks) { s with toks := s.toks + 1 }) : wpAny (model prog w) A (binaryOp .Add (.str x t) (.str y u)) Q E s := by
  refine PySem.P.add_str ?_
  rw [if_neg (by simpa using hx), if_neg (by simpa using hy)]
  exact ⟨hs, h⟩
abbrev fsOf (outer : List Env) : List Addr := outer.filterMap (·.frame)
/-- all stands, but for the slots of some frames -/
def KeepS (fs : List Addr) (h h' : Heap) : Prop := ∀ b o, h.get? b = some o → (b ∉ fs → h'.get? b = some o) ∧ (b ∈ fs → ∃ sl, h'.get? b = some { o with slots := sl })
theorem KeepS.of {fs : List Addr} {h h' : Heap} (k : Keep h h') : KeepS fs h h' := fun b o e => ⟨fun _ => k b o e, fun _ => ⟨o.slots, k b o e⟩⟩
theorem KeepS.turn {fs : List Addr} {g g' h' : Heap} (T : KtsTurn fs g g') (k : Keep g' h') : KeepS fs g h' := fun b o e => ⟨fun m => k b o (T.other b o e m), fun m => let ⟨sl, hs⟩ := T.frame b o e m; ⟨sl, k _ _ hs⟩⟩
theorem turn_fresh {fs : List Addr} {g g' : Heap} (T : KtsTurn fs g g') {a : Addr} (h : g'.get? a = none) : g.get? a = none := by
  cases q : g.get? a with
  | none => rfl
  | some o => obtain ⟨sl, e⟩ := T.up q; rw [h] at e; cases e
theorem std_below {w : World} {p : Program} {loose : List Str} {mg mb : Str → Option Value} {mean : ExcName → Option Value} {A : Around} {base h : Heap} {outer : List Env} (K : Below A base outer h) (XB : (hd.heap_39 w.params).In base) (TB : Top p loose mean mg mb base) : Std w p loose mg mb h :=
  ⟨XB.keeps K.stays, topRead_of (TB.keeps K.stays)⟩
section
variable {w : World} {d u : Nat} {fr : Option (List Env)} {gs : Option (List Code)} {E : Value → Shared → Prop} {s : Shared} {p : Program} {loose : List Str} {mg mb : Str → Option Value} {Q : Value → Shared → Prop} {mean : ExcName → Option Value} {base : Heap} {outer : List Env}
theorem done_ok {dI : Int} {one two : Nat} {sg q : List Nat} {td t1 t2 t3 : Tok} (K : Below (Ar d fr gs u) base outer s.heap) (XB : (hd.heap_39 w.params).In base) (TB : Top p loose mean mg mb base) (D : KtsDicts (fsOf outer) s.heap) (hroom : d + 1 < recursionLimit)
    (hd8 : dI = 21 ∨ dI = 34 ∨ dI = 20 ∨ dI = 33 ∨ dI = 32 ∨ dI = 35 ∨ dI = 31 ∨ dI = 16) (hsg : dI = 21 ∨ dI = 34 ∨ dI = 20 ∨ dI = 33 → ∃ c, sg = [c] ∧ t1 ≠ 0 ∧ t1 < s.toks) (hq : q.length ≤ 100) (h12 : one ≠ two) (h1 : one ≠ 46) (h2 : two ≠ 46) (hqs : ∀ x ∈ q, x = one ∨ x = two)
    (k : ∀ h' a tk, KeepS (fsOf outer) s.heap h' → s.heap.get? a = none → TextsAt h' a (doneL one two dI sg q) → Q (.ref a) { s with heap := h', toks := tk }) :
    wpAny (model prog w) (Ar d fr gs u) (call (.ref 106) [.int dI td, .str (S sg) t1, .str (S [one, two]) t2, .str (S q) t3] []) Q E s := by
  have S0 := std_below K XB TB
  have hroom' : d < recursionLimit := by omega
  rcases hd8 with rfl | rfl | rfl | rfl | rfl | rfl | rfl | rfl
  · obtain ⟨c, rfl, _, _⟩ := hsg (by simp)
    walk_at "my enter"
    repeat' walk_at "my stepL"
    refine mul_str_ok (p := p) (loose := loose) (mg := mg) (mb := mb) ?sk1 hroom (mulOk_one c) fun h1 t1 tk1 k1 => ?_
    case sk1 => exact S0.keep (Fr.keep (by assumption))
    (rename News _ _ _ _ => N; replace N := News.keepsAll N k1); (rename Fr _ _ _ _ => F; replace F := F.after k1)
    rw [show Txt.mul (S [c]) 1 = S [c] from rfl]
    repeat' walk_at "my stepL"
    refine add_str_ok (p := p) (loose := loose) (mg := mg) (mb := mb) ?sk2 hroom (by rw [S_len, S_len, sizeLine_eq]; simp; omega) fun h2 t2 tk2 k2 => ?_
    case sk2 => exact S0.keep (Fr.keep (by assumption))
    (rename News _ _ _ _ => N; replace N := News.keepsAll N k2); (rename Fr _ _ _ _ => F; replace F := F.after k2)
    rw [S_add]
    repeat' walk_at "my stepL"
    (rename News _ _ _ _ => N); (rename Fr _ _ _ _ => F)
    exact k _ _ _ (KeepS.of (Fr.keep F)) (N _ (.head _)).2.2 (texts_one N (.head _))
  · obtain ⟨c, rfl, _, _⟩ := hsg (by simp)
    walk_at "my enter"
    repeat' walk_at "my stepL"
    refine mul_str_ok (p := p) (loose := loose) (mg := mg) (mb := mb) ?sk3 hroom (mulOk_two c) fun h1 t1 tk1 k1 => ?_
    case sk3 => exact S0.keep (Fr.keep (by assumption))
    (rename News _ _ _ _ => N; replace N := News.keepsAll N k1); (rename Fr _ _ _ _ => F; replace F := F.after k1)
    rw [show Txt.mul (S [c]) 2 = S [c, c] from rfl]
    repeat' walk_at "my stepL"
    refine add_str_ok (p := p) (loose := loose) (mg := mg) (mb := mb) ?sk4 hroom (by rw [S_len, S_len, sizeLine_eq]; simp; omega) fun h2 t2 tk2 k2 => ?_
    case sk4 => exact S0.keep (Fr.keep (by assumption))
    (rename News _ _ _ _ => N; replace N := News.keepsAll N k2); (rename Fr _ _ _ _ => F; replace F := F.after k2)
    rw [S_add]
    repeat' walk_at "my stepL"
    (rename News _ _ _ _ => N); (rename Fr _ _ _ _ => F)
    exact k _ _ _ (KeepS.of (Fr.keep F)) (N _ (.head _)).2.2 (texts_one N (.head _))
  · obtain ⟨c, rfl, ht0, ht1⟩ := hsg (by simp)
    walk_at "my enter"
    repeat' ((fail_if_success (with_reducible show wpAny _ _ (compareOp CmpOp.In _ _) _ _ _)); walk_at "my stepL")
    refine wpAny_with_toks (n := t1 + 1) (by show t1 + 1 ≤ (_ : Nat); exact Nat.le_trans ht1 (by dsimp only; omega)) ?_
    walk_at "my stepL"
    (try intro htA0)
    (rename t1 + 1 ≤ _ => htA)
    dsimp only at htA
    repeat' ((fail_if_success (with_reducible show wpAny _ _ (compareOp CmpOp.In _ _) _ _ _)); walk_at "my stepL")
    refine wpAny_with_toks (n := t1 + 1) (by show t1 + 1 ≤ (_ : Nat); exact Nat.le_trans htA (by dsimp only; omega)) ?_
    walk_at "my stepL"
    (try intro htB0)
    (rename t1 + 1 ≤ _ => htB)
    dsimp only at htB
    repeat' walk_at "my stepL"
    refine wpAny_For ?_ (by intro _; rfl)
    refine wpAny_with_toks (n := t1 + 1) (by show t1 + 1 ≤ (_ : Nat); exact Nat.le_trans htB (by dsimp only; omega)) ?_
    repeat' walk_at "my stepL"
    (rename t1 + 1 ≤ _ => htC)
    dsimp only at htC
    repeat' walk_at "my stepL"
    rename Fr _ _ _ _ => F
    refine  iter_rangeT (n0 := t1 + 1) (nx := []) (fun i m nx => nx = [] ∧ ∃ qi tq, readsL c i q = some qi ∧ m (Str.ofString "queue") = some (.str (S qi) tq) ∧ m (Str.ofString "sign") = some (.str (S [c]) t1)) rfl (by assumption) (by omega) (by omega) F (fun p hp => nomatch hp) ⟨rfl, q, _, rfl, rfl, rfl⟩ ?htk1 ?_ ?_ PassesOwn.never (fun I => goes_name)
    case htk1 => show t1 + 1 ≤ (_ : Nat); exact Nat.le_trans htC (by first | exact Nat.le_refl _ | (dsimp only; omega))
    · rintro i ti hi m₁ nx₁ h tk own htk ap ⟨rfl, qi, tq, hr, e1, e2⟩ F N
      have hi2 : i < 1 := by omega
      replace F := reveal2 F e1 e2
      have hql := reads_len hr
      have hlS : (S qi).length ≤ 100 := by rw [S_len]; omega
      repeat' walk_at "my stepL"
      (rename News _ _ _ _ => N1); (rename Fr _ _ _ _ => F1)
      refine indexOf_ok (p := p) (loose := loose) (mg := mg) (mb := mb) (base := base) (outer := envOf _ _ s.heap.objs.size 106 (.ref 105) :: outer) ?sk1 hroom ht0 (show t1 < (_ : Nat) from by dsimp only; exact Nat.lt_of_lt_of_le (Nat.lt_succ_self t1) (by first | exact htk | omega)) (fun i6 h6 t6 tk6 hi6 k6 => ?_) (fun hno => ⟨K.push F1, fun h6 e tk6 R up => ?_⟩)
      case sk1 => exact S0.keep (Fr.keep (by assumption))
      · (replace N1 := News.keepsAll N1 k6); (replace F1 := F1.after k6)
        repeat' walk_at "my stepL"
        refine add_int_ok (p := p) (loose := loose) (mg := mg) (mb := mb) ?sq1 hroom fun h7 t7 tk7 k7 => ?_
        case sq1 => exact S0.keep (Fr.keep (by assumption))
        (rename News _ _ _ _ => N2; replace N2 := News.keepsAll N2 k7); (rename Fr _ _ _ _ => F2; replace F2 := F2.after k7)
        repeat' walk_at "my stepL"
        refine TEnd.mk (nx := []) (by assumption) (by assumption) (fun p hp => nomatch hp) (by walk_at "my own") Apart.nil ?_
        refine ⟨rfl, qi.drop (i6 + 1), ?zq1, ?za1, ?zb1, ?zc1⟩
        case za1 => show (readsL c i q).bind (readL c) = _; rw [hr]; show readL c qi = _; unfold readL; rw [hi6]; rfl
        case zb1 => rw [← slice_drop]; exact rfl
        case zc1 => exact rfl
      · refine caught_SN0 (T' := "ValueError") (KF := hd.heap_39 w.params) R F1 K up XB TB D KtsTurn.refl ?ex1 PyProof.Rows.Boot.«ValueError» ?hn1 PySem.F.isExc_ValueError PySem.F.notTuple_ValueError ?hs1 (fun h8 g8 T8 F8 N8 K8 X8 P8 D8 => ?_)
        case hs1 => kts_sub
        case ex1 => k_is
        case hn1 => decide
        have T8' := topRead_of P8
        repeat' walk_at "my stepL"
        (rename News g8 _ _ _ => N9); (rename Fr g8 _ _ _ => F9)
        refine k _ _ _ (KeepS.turn T8 F9.keep) (turn_fresh T8 (N9 _ (.head _)).2.2) ?_
        rw [show doneL one two _ [c] q = (readsL c 1 q).toList from rfl, reads_none hr hno 1 hi2]
        exact texts_nil N9 (.head _)
    · rintro m₁ nx₁ h tk htk ⟨rfl, qi, tq, hr, e1, e2⟩ F N
      replace F := reveal F e1
      repeat' walk_at "my stepL"
      (rename News _ _ _ _ => N1); (rename Fr _ _ _ _ => F1)
      refine k _ _ _ (KeepS.of (Fr.keep F1)) (N1 _ (.head _)).2.2 ?_
      rw [show doneL one two _ [c] q = (readsL c 1 q).toList from rfl, show readsL c 1 q = some qi from hr]
      exact texts_one N1 (.head _)
  · obtain ⟨c, rfl, ht0, ht1⟩ := hsg (by simp)
    walk_at "my enter"
    repeat' ((fail_if_success (with_reducible show wpAny _ _ (compareOp CmpOp.In _ _) _ _ _)); walk_at "my stepL")
    refine wpAny_with_toks (n := t1 + 1) (by show t1 + 1 ≤ (_ : Nat); exact Nat.le_trans ht1 (by dsimp only; omega)) ?_
    walk_at "my stepL"
    (try intro htA0)
    (rename t1 + 1 ≤ _ => htA)
    dsimp only at htA
    repeat' ((fail_if_success (with_reducible show wpAny _ _ (compareOp CmpOp.In _ _) _ _ _)); walk_at "my stepL")
    refine wpAny_with_toks (n := t1 + 1) (by show t1 + 1 ≤ (_ : Nat); exact Nat.le_trans htA (by dsimp only; omega)) ?_
    walk_at "my stepL"
    (try intro htB0)
    (rename t1 + 1 ≤ _ => htB)
    dsimp only at htB
    repeat' walk_at "my stepL"
    refine wpAny_For ?_ (by intro _; rfl)
    refine wpAny_with_toks (n := t1 + 1) (by show t1 + 1 ≤ (_ : Nat); exact Nat.le_trans htB (by dsimp only; omega)) ?_
    repeat' walk_at "my stepL"
    (rename t1 + 1 ≤ _ => htC)
    dsimp only at htC
    repeat' walk_at "my stepL"
    rename Fr _ _ _ _ => F
    refine  iter_rangeT (n0 := t1 + 1) (nx := []) (fun i m nx => nx = [] ∧ ∃ qi tq, readsL c i q = some qi ∧ m (Str.ofString "queue") = some (.str (S qi) tq) ∧ m (Str.ofString "sign") = some (.str (S [c]) t1)) rfl (by assumption) (by omega) (by omega) F (fun p hp => nomatch hp) ⟨rfl, q, _, rfl, rfl, rfl⟩ ?htk2 ?_ ?_ PassesOwn.never (fun I => goes_name)
    case htk2 => show t1 + 1 ≤ (_ : Nat); exact Nat.le_trans htC (by first | exact Nat.le_refl _ | (dsimp only; omega))
    · rintro i ti hi m₁ nx₁ h tk own htk ap ⟨rfl, qi, tq, hr, e1, e2⟩ F N
      have hi2 : i < 2 := by omega
      replace F := reveal2 F e1 e2
      have hql := reads_len hr
      have hlS : (S qi).length ≤ 100 := by rw [S_len]; omega
      repeat' walk_at "my stepL"
      (rename News _ _ _ _ => N1); (rename Fr _ _ _ _ => F1)
      refine indexOf_ok (p := p) (loose := loose) (mg := mg) (mb := mb) (base := base) (outer := envOf _ _ s.heap.objs.size 106 (.ref 105) :: outer) ?sk2 hroom ht0 (show t1 < (_ : Nat) from by dsimp only; exact Nat.lt_of_lt_of_le (Nat.lt_succ_self t1) (by first | exact htk | omega)) (fun i6 h6 t6 tk6 hi6 k6 => ?_) (fun hno => ⟨K.push F1, fun h6 e tk6 R up => ?_⟩)
      case sk2 => exact S0.keep (Fr.keep (by assumption))
      · (replace N1 := News.keepsAll N1 k6); (replace F1 := F1.after k6)
        repeat' walk_at "my stepL"
        refine add_int_ok (p := p) (loose := loose) (mg := mg) (mb := mb) ?sq2 hroom fun h7 t7 tk7 k7 => ?_
        case sq2 => exact S0.keep (Fr.keep (by assumption))
        (rename News _ _ _ _ => N2; replace N2 := News.keepsAll N2 k7); (rename Fr _ _ _ _ => F2; replace F2 := F2.after k7)
        repeat' walk_at "my stepL"
        refine TEnd.mk (nx := []) (by assumption) (by assumption) (fun p hp => nomatch hp) (by walk_at "my own") Apart.nil ?_
        refine ⟨rfl, qi.drop (i6 + 1), ?zq2, ?za2, ?zb2, ?zc2⟩
        case za2 => show (readsL c i q).bind (readL c) = _; rw [hr]; show readL c qi = _; unfold readL; rw [hi6]; rfl
        case zb2 => rw [← slice_drop]; exact rfl
        case zc2 => exact rfl
      · refine caught_SN0 (T' := "ValueError") (KF := hd.heap_39 w.params) R F1 K up XB TB D KtsTurn.refl ?ex2 PyProof.Rows.Boot.«ValueError» ?hn2 PySem.F.isExc_ValueError PySem.F.notTuple_ValueError ?hs2 (fun h8 g8 T8 F8 N8 K8 X8 P8 D8 => ?_)
        case hs2 => kts_sub
        case ex2 => k_is
        case hn2 => decide
        have T8' := topRead_of P8
        repeat' walk_at "my stepL"
        (rename News g8 _ _ _ => N9); (rename Fr g8 _ _ _ => F9)
        refine k _ _ _ (KeepS.turn T8 F9.keep) (turn_fresh T8 (N9 _ (.head _)).2.2) ?_
        rw [show doneL one two _ [c] q = (readsL c 2 q).toList from rfl, reads_none hr hno 2 hi2]
        exact texts_nil N9 (.head _)
    · rintro m₁ nx₁ h tk htk ⟨rfl, qi, tq, hr, e1, e2⟩ F N
      replace F := reveal F e1
      repeat' walk_at "my stepL"
      (rename News _ _ _ _ => N1); (rename Fr _ _ _ _ => F1)
      refine k _ _ _ (KeepS.of (Fr.keep F1)) (N1 _ (.head _)).2.2 ?_
      rw [show doneL one two _ [c] q = (readsL c 2 q).toList from rfl, show readsL c 2 q = some qi from hr]
      exact texts_one N1 (.head _)
  · walk_at "my enter"
    repeat' ((fail_if_success (with_reducible show wpAny _ _ (subscriptTail _ _ (Value.str _ _) (Value.int _ _)) _ _ _)); walk_at "my step")
    refine item_S (i := 0) (c := one) rfl (by simp) ?_
    repeat' ((fail_if_success (with_reducible show wpAny _ _ (subscriptTail _ _ (Value.str _ _) (Value.int _ _)) _ _ _)); walk_at "my step")
    refine item_S (i := 1) (c := two) rfl (by simp) ?_
    repeat' ((fail_if_success (with_reducible show wpAny _ _ (PySem.call (Value.builtin "str.replace") _ _) _ _ _)); walk_at "my step")
    try rw [show Str.ofString "." = S [46] by decide +kernel]
    refine wpAny_with_toks (Nat.le_refl _) (SC.replaceA ?hu1 ?hv1 ?huv1 ?hb1 (fun t1 k1 hk1 => ?_) (booked (S0.keep (Fr.keep (by assumption)))))
    case hu1 => (show (_ : Nat) ≠ (_ : Nat); first | exact Nat.succ_ne_zero _ | omega | (dsimp only; omega))
    case hv1 => (show (_ : Nat) ≠ (_ : Nat); first | exact Nat.succ_ne_zero _ | omega | (dsimp only; omega))
    case huv1 => (show (_ : Nat) ≠ (_ : Nat); first | exact Nat.succ_ne_zero _ | omega | (dsimp only; omega))
    case hb1 => rw [S_len, S_len]; simp; omega
    dsimp only at hk1
    rw [replace_S]
    repeat' ((fail_if_success (with_reducible show wpAny _ _ (PySem.call (Value.builtin "str.replace") _ _) _ _ _)); walk_at "my step")
    refine wpAny_with_toks (Nat.le_refl _) (SC.replaceA ?hu2 ?hv2 ?huv2 ?hb2 (fun t2 k2 hk2 => ?_) (booked (S0.keep (Fr.keep (by assumption)))))
    case hu2 => (show (_ : Nat) ≠ (_ : Nat); first | exact Nat.succ_ne_zero _ | omega | (dsimp only; omega))
    case hv2 => (show (_ : Nat) ≠ (_ : Nat); first | exact Nat.succ_ne_zero _ | omega | (dsimp only; omega))
    case huv2 => (show (_ : Nat) ≠ (_ : Nat); first | exact Nat.succ_ne_zero _ | omega | (dsimp only; omega))
    case hb2 => rw [S_len, S_len, flat_one_len]; simp; omega
    dsimp only at hk2
    rw [replace_S]
    repeat' ((fail_if_success (with_reducible show wpAny _ _ (PySem.call (Value.builtin "str.replace") _ _) _ _ _)); walk_at "my step")
    try rw [show Str.ofString "." = S [46] by decide +kernel]
    refine wpAny_with_toks (Nat.le_refl _) (SC.replaceA ?hu3 ?hv3 ?huv3 ?hb3 (fun t3 k3 hk3 => ?_) (booked (S0.keep (Fr.keep (by assumption)))))
    case hu3 => (show (_ : Nat) ≠ (_ : Nat); first | exact Nat.succ_ne_zero _ | omega | (dsimp only; omega))
    case hv3 => (show (_ : Nat) ≠ (_ : Nat); first | exact Nat.succ_ne_zero _ | omega | (dsimp only; omega))
    case huv3 => (show (_ : Nat) ≠ (_ : Nat); first | exact Nat.succ_ne_zero _ | omega | (dsimp only; omega))
    case hb3 => rw [S_len, S_len, flat_one_len, flat_one_len]; simp; omega
    dsimp only at hk3
    rw [replace_S, swap_flat h12 h1 h2 q hqs]
    repeat' walk_at "my stepL"
    (rename News _ _ _ _ => N); (rename Fr _ _ _ _ => F)
    exact k _ _ _ (KeepS.of (Fr.keep F)) (N _ (.head _)).2.2 (texts_one N (.head _))
  · walk_at "my enter"
    repeat' ((fail_if_success (with_reducible show wpAny _ _ (subscriptTail _ _ (Value.str _ _) (Value.int _ _)) _ _ _)); walk_at "my step")
    refine item_S (i := 0) (c := one) rfl (by simp) ?_
    repeat' ((fail_if_success (with_reducible show wpAny _ _ (subscriptTail _ _ (Value.str _ _) (Value.int _ _)) _ _ _)); walk_at "my step")
    refine item_S (i := 1) (c := two) rfl (by simp) ?_
    repeat' ((fail_if_success (with_reducible show wpAny _ _ (binaryOp Operator.Add (Value.str _ _) (Value.str _ _)) _ _ _)); walk_at "my step")
    refine add_tok (by rw [S_len]; simp) (by rw [S_len]; simp) (by rw [S_add, S_len, sizeLine_eq]; simp) ?_
    rw [S_add]
    repeat' ((fail_if_success (with_reducible show wpAny _ _ (PySem.call (Value.builtin "str.replace") _ _) _ _ _)); walk_at "my step")
    refine wpAny_with_toks (Nat.le_refl _) (SC.replaceA ?hu4 ?hv4 ?huv4 ?hb4 (fun t4 k4 hk4 => ?_) (booked (S0.keep (Fr.keep (by assumption)))))
    case hu4 => (show (_ : Nat) ≠ (_ : Nat); first | exact Nat.succ_ne_zero _ | omega | (dsimp only; omega))
    case hv4 => (show (_ : Nat) ≠ (_ : Nat); first | exact Nat.succ_ne_zero _ | omega | (dsimp only; omega))
    case huv4 => (show (_ : Nat) ≠ (_ : Nat); first | exact Nat.succ_ne_zero _ | omega | (dsimp only; omega))
    case hb4 => rw [S_len, S_len]; simp; omega
    dsimp only at hk4
    rw [replace_S]
    repeat' ((fail_if_success (with_reducible show wpAny _ _ (binaryOp Operator.Add (Value.str _ _) (Value.str _ _)) _ _ _)); walk_at "my step")
    refine add_tok (by rw [S_len]; simp) (by rw [S_len]; simp) (by rw [S_add, S_len, sizeLine_eq]; simp) ?_
    rw [S_add]
    repeat' ((fail_if_success (with_reducible show wpAny _ _ (PySem.call (Value.builtin "str.replace") _ _) _ _ _)); walk_at "my step")
    refine wpAny_with_toks (Nat.le_refl _) (SC.replaceA ?hu5 ?hv5 ?huv5 ?hb5 (fun t5 k5 hk5 => ?_) (booked (S0.keep (Fr.keep (by assumption)))))
    case hu5 => (show (_ : Nat) ≠ (_ : Nat); first | exact Nat.succ_ne_zero _ | omega | (dsimp only; omega))
    case hv5 => (show (_ : Nat) ≠ (_ : Nat); first | exact Nat.succ_ne_zero _ | omega | (dsimp only; omega))
    case huv5 => (show (_ : Nat) ≠ (_ : Nat); first | exact Nat.succ_ne_zero _ | omega | (dsimp only; omega))
    case hb5 => rw [S_len, S_len]; have := flat_two_len one one q; simp at this ⊢; omega
    dsimp only at hk5
    rw [replace_S]
    have etw := twice_flat h12 q hqs
    (try rw [show ([two] ++ [two]) = [two, two] from rfl])
    (try rw [show ([one] ++ [one]) = [one, one] from rfl])
    rw [etw]
    repeat' walk_at "my stepL"
    (rename News _ _ _ _ => N); (rename Fr _ _ _ _ => F)
    exact k _ _ _ (KeepS.of (Fr.keep F)) (N _ (.head _)).2.2 (texts_one N (.head _))
  · walk_at "my enter"
    repeat' walk_at "my stepL"
    (rename News _ _ _ _ => N); (rename Fr _ _ _ _ => F)
    rw [slice_rev] at N
    exact k _ _ _ (KeepS.of (Fr.keep F)) (N _ (.head _)).2.2 (texts_one N (.head _))
  · walk_at "my enter"
    repeat' walk_at "my stepL"
    (rename News _ _ _ _ => N); (rename Fr _ _ _ _ => F)
    exact k _ _ _ (KeepS.of (Fr.keep F)) (N _ (.head _)).2.2 (texts_one N (.head _))
end
-- forth
/-- the frames among what stands, as they stand now -/
def FramesAre (fs : List Addr) (g : Heap) (fe : List (Addr × Obj)) : Prop := (∀ p ∈ fe, p.1 ∈ fs ∧ ∃ o sl, g.get? p.1 = some o ∧ p.2 = { o with slots := sl }) ∧ ∀ b ∈ fs, ∃ o, (b, o) ∈ fe
def Off (fs : List Addr) (own : List (Addr × Obj)) : Prop := ∀ p ∈ own, p.1 ∉ fs
theorem frames_in {fs : List Addr} {g : Heap} (D : KtsDicts fs g) : ∃ fe, FramesAre fs g fe ∧ ∀ p ∈ fe, g.get? p.1 = some p.2 := by
  refine ⟨fs.filterMap fun b => (g.get? b).map (b, ·), ⟨fun p hp => ?_, fun b hb => ?_⟩, fun p hp => ?_⟩
  · obtain ⟨b, hb, e⟩ := List.mem_filterMap.mp hp
    obtain ⟨o, es, n, ho, _⟩ := D b hb
    rw [ho] at e
    cases e
    exact ⟨hb, o, o.slots, ho, rfl⟩
  · obtain ⟨o, es, n, ho, _⟩ := D b hb
    exact ⟨o, List.mem_filterMap.mpr ⟨b, hb, by rw [ho]; rfl⟩⟩
  · obtain ⟨b, hb, e⟩ := List.mem_filterMap.mp hp
    obtain ⟨o, es, n, ho, _⟩ := D b hb
    rw [ho] at e
    cases e
    exact ho
/-- the heap without the frames -/
structure Hid (fs : List Addr) (g g0 : Heap) : Prop where
  of : ∀ b o, g0.get? b = some o → g.get? b = some o
  get : ∀ b o, g.get? b = some o → b ∉ fs → g0.get? b = some o
  none_ : ∀ b ∈ fs, g0.get? b = none
  size : g0.objs.size = g.objs.size
theorem hid_is (fs : List Addr) (g : Heap) : ∃ g0, Hid fs g g0 := ⟨hideAll g fs, fun _ _ e => of_hideAll _ e, fun _ _ e n => hideAll_get _ e n, fun _ hb => hideAll_none _ hb, hideAll_size _ _⟩
section
variable {fs : List Addr} {g g0 h h' base : Heap} {L a : Addr} {m : Str → Option Value} {A : Around} {outer : List Env} {fe rest nx own : List (Addr × Obj)} {name : Str} {scope : Scope} {cd : Value}
theorem hid_fr (H : Hid fs g g0) (F : Fr g L h m) : Fr g0 L h m := ⟨F.ns, fun b o e => F.keep b o (H.of b o e), by rw [H.size]; exact F.above⟩
theorem keepS_at (H : Hid fs g g0) (F : Fr g0 L h m) (N : News g0 L h nx) (FA : FramesAre fs g fe) (hs : ∀ p ∈ fe, p ∈ nx) : KeepS fs g h := fun b o e => ⟨fun hb => F.keep b o (H.get b o e hb), fun hb => by
  obtain ⟨o', ho'⟩ := FA.2 b hb
  obtain ⟨_, o2, sl, h2, e2⟩ := FA.1 _ ho'
  have e3 : some o = some o2 := e.symm.trans h2
  cases e3
  exact ⟨sl, by rw [← (show o' = _ from e2)]; exact (N _ (hs _ ho')).1⟩⟩
theorem KeepS.trans {h'' : Heap} (k : KeepS fs h h') (k' : KeepS fs h' h'') : KeepS fs h h'' := fun b o e => ⟨fun hb => (k' b o ((k b o e).1 hb)).1 hb, fun hb => by
  obtain ⟨s1, e1⟩ := (k b o e).2 hb
  obtain ⟨s2, e2⟩ := (k' b _ e1).2 hb
  exact ⟨s2, e2⟩⟩
theorem dicts_keepS (D : KtsDicts fs g) (k : KeepS fs g h) : KtsDicts fs h := fun b hb => by
  obtain ⟨o, es, n, ho, hd⟩ := D b hb
  obtain ⟨sl, e⟩ := (k b o ho).2 hb
  exact ⟨_, es, n, e, hd⟩
theorem fr_none (F : Fr g L h m) : g.get? L = none := kts_self F
theorem below_keepS {outer : List Env} (K : Below A base outer g) (k : KeepS (fsOf outer) g h) : Below A base outer h := by
  refine ⟨K.stack, fun b o e => (k b o (K.stays b o e)).1 fun hb => ?_, K.frames.of_keeps fun b o e _ => ?_⟩
  · rw [(K.frames.mem hb).1] at e; cases e
  · by_cases hb : b ∈ fsOf outer
    · obtain ⟨sl, e'⟩ := (k b o e).2 hb; exact ⟨_, e', rfl⟩
    · exact ⟨o, (k b o e).1 hb, rfl⟩
theorem before_call {outer : List Env} (K : Below A base outer g) (D : KtsDicts (fsOf outer) g) (H : Hid (fsOf outer) g g0) (F : Fr g0 L h m) (N : News g0 L h nx) (FA : FramesAre (fsOf outer) g fe) (hs : ∀ p ∈ fe, p ∈ nx) (hk : scope.kind = .function := by rfl) :
    Below (A.deeper (envOf name scope L a cd)) base (envOf name scope L a cd :: outer) h ∧ KtsDicts (fsOf (envOf name scope L a cd :: outer)) h := by
  have kS := keepS_at H F N FA hs
  have K' := below_keepS K kS
  have hnew : base.get? L = none := by
    cases hq : base.get? L with
    | none => rfl
    | some o =>
      have := Nat.lt_of_lt_of_le (Heap.lt_size (K.stays L o hq)) (H.size ▸ F.above)
      exact absurd this (Nat.lt_irrefl _)
  refine ⟨⟨Around.frames_deeper K.stack, K'.stays, .cons (by show scope.kind ≠ .module; rw [hk]; decide) rfl F.ns hnew K'.frames⟩, fun b hb => ?_⟩
  rcases kts_mem hb with rfl | hb
  · obtain ⟨o, es, ep, ho, hd, _⟩ := F.ns
    exact ⟨o, es, ep, ho, hd⟩
  · exact dicts_keepS D kS b hb
theorem after_call (H : Hid fs g g0) (F : Fr g0 L h m) (N : News g0 L h (fe ++ rest)) (FA : FramesAre fs g fe) (O : Off fs rest) (hL : L ∉ fs) (k : KeepS (L :: fs) h h') : ∃ fe', FramesAre fs g fe' ∧ Fr g0 L h' m ∧ News g0 L h' (fe' ++ rest) := by
  have hne : ∀ b o, g0.get? b = some o → b ∉ L :: fs := fun b o e hb => by
    rcases List.mem_cons.mp hb with rfl | hb
    · exact absurd (Nat.lt_of_lt_of_le (Heap.lt_size e) F.above) (Nat.lt_irrefl _)
    · rw [H.none_ b hb] at e; cases e
  have F' : Fr g0 L h' m := by
    obtain ⟨o, es, ep, ho, hd, hk, hf⟩ := F.ns
    obtain ⟨sl, e⟩ := (k L o ho).2 (.head _)
    exact ⟨⟨_, es, ep, e, hd, hk, hf⟩, fun b o e => (k b o (F.keep b o e)).1 (hne b o e), F.above⟩
  refine ⟨fe.map fun p => (p.1, (h'.get? p.1).getD p.2), ⟨fun p hp => ?_, fun b hb => ?_⟩, F', fun p hp => ?_⟩
  · obtain ⟨q, hq, rfl⟩ := List.mem_map.mp hp
    obtain ⟨hfs, o, sl, ho, e⟩ := FA.1 q hq
    obtain ⟨sl2, e2⟩ := (k _ _ (N q (List.mem_append_left _ hq)).1).2 (.tail _ hfs)
    refine ⟨hfs, o, sl2, ho, ?_⟩
    show (h'.get? q.1).getD q.2 = _
    rw [e2, e]; rfl
  · obtain ⟨o, ho⟩ := FA.2 b hb
    exact ⟨_, List.mem_map.mpr ⟨_, ho, rfl⟩⟩
  · rcases List.mem_append.mp hp with hp | hp
    · obtain ⟨q, hq, rfl⟩ := List.mem_map.mp hp
      obtain ⟨n1, n2, n3⟩ := N q (List.mem_append_left _ hq)
      obtain ⟨sl2, e2⟩ := (k _ _ n1).2 (.tail _ (FA.1 q hq).1)
      refine ⟨?_, n2, n3⟩
      show h'.get? q.1 = some ((h'.get? q.1).getD q.2)
      rw [e2]; rfl
    · obtain ⟨n1, n2, n3⟩ := N p (List.mem_append_right _ hp)
      exact ⟨(k _ _ n1).1 (fun hb => by
        rcases List.mem_cons.mp hb with e | hb
        · exact n2 e
        · exact O p hp hb), n2, n3⟩
theorem off_of (FA : FramesAre fs g fe) (ap : Apart fe own) : Off fs own := fun q hq hb => by
  obtain ⟨o, ho⟩ := FA.2 _ hb
  exact ap _ ho q hq rfl
theorem apart_of (FA : FramesAre fs g fe) (O : Off fs own) : Apart fe own := fun p hp q hq e => O q hq (e ▸ (FA.1 p hp).1)
end
theorem list_off {fs : List Addr} {g : Heap} {a : Addr} {items : Array Value} (D : KtsDicts fs g) (hl : g.IsList a items) : a ∉ fs := fun hb => by
  obtain ⟨o, es, n, ho, hd⟩ := D a hb
  obtain ⟨o', ho', _, n', hd'⟩ := hl
  rw [ho] at ho'; cases ho'; rw [hd] at hd'; cases hd'
theorem step_off {fs : List Addr} {g g0 : Heap} {v : Value} {st : Step} {N : Nat} (D : KtsDicts fs g) (H : Hid fs g g0) (h : StepAt g N v st) : StepAt g0 N v st := by
  obtain ⟨T, vs, e, hT, q⟩ := h
  refine ⟨T, vs, e, hT.at fun o e => H.get T o e fun hb => ?_, q⟩
  obtain ⟨o, es, n, ho, hd⟩ := D T hb
  obtain ⟨o', ho', _, n', hd'⟩ := hT
  rw [ho] at ho'; cases ho'; rw [hd] at hd'; cases hd'
theorem paired_get {α β : Type} {R : α → β → Prop} : ∀ {l₁ : List α} {l₂ : List β}, Paired R l₁ l₂ → ∀ {i : Nat} {x : α}, l₁[i]? = some x → ∃ y, l₂[i]? = some y ∧ R x y
  | _, _, .nil, i, x, h => by simp at h
  | _, _, .cons hr P, 0, x, h => by simp at h; subst h; exact ⟨_, rfl, hr⟩
  | _, _, .cons hr P, i + 1, x, h => paired_get P (i := i) (by simpa using h)
def StepGood (one two : Nat) (st : Step) : Prop :=
  (natV st.deed = 21 ∨ natV st.deed = 34 ∨ natV st.deed = 20 ∨ natV st.deed = 33 ∨ natV st.deed = 32 ∨ natV st.deed = 35 ∨ natV st.deed = 31 ∨ natV st.deed = 16) ∧
  (natV st.deed = 21 ∨ natV st.deed = 34 ∨ natV st.deed = 20 ∨ natV st.deed = 33 → ∃ c, st.sg = [c] ∧ (c = one ∨ c = two))
def forthL (one two : Nat) (sts : List Step) : Nat → Nat → List Nat → Bool
  | 0, place, _ => place == 2
  | n + 1, place, q => place == 2 || sts.any fun st => st.frm == place && (decide (1 < n + 1) || st.to == 2) && (doneL one two st.deed st.sg q).any fun r => forthL one two sts n st.to r
theorem reads_mem {c : Nat} : ∀ {n : Nat} {q r : List Nat}, readsL c n q = some r → ∀ x ∈ r, x ∈ q
  | 0, q, r, h, x, hx => by cases h; exact hx
  | n + 1, q, r, h, x, hx => by
    change (readsL c n q).bind (readL c) = some r at h
    cases hq : readsL c n q with
    | none => rw [hq] at h; cases h
    | some qi =>
      rw [hq] at h
      refine reads_mem hq x ?_
      change readL c qi = some r at h
      unfold readL at h
      cases hi : qi.idxOf? c with
      | none => rw [hi] at h; cases h
      | some i => rw [hi] at h; cases h; exact List.mem_of_mem_drop hx
theorem done_in {one two : Nat} {st : Step} {q r : List Nat} (G : StepGood one two st) (hq : ∀ x ∈ q, x = one ∨ x = two) (hr : r ∈ doneL one two st.deed st.sg q) : r.length + 2 ≤ 2 * (q.length + 2) ∧ ∀ x ∈ r, x = one ∨ x = two := by
  obtain ⟨h8, hs⟩ := G
  unfold doneL at hr
  rcases h8 with e | e | e | e | e | e | e | e
  · obtain ⟨c, hc, hc2⟩ := hs (by simp [e])
    rw [show (st.deed : Int) = 21 from e, hc] at hr
    simp at hr; subst hr
    refine ⟨by simp; omega, fun x hx => ?_⟩
    simp at hx
    rcases hx with hx | rfl
    · exact hq x hx
    · exact hc2
  · obtain ⟨c, hc, hc2⟩ := hs (by simp [e])
    rw [show (st.deed : Int) = 34 from e, hc] at hr
    simp at hr; subst hr
    refine ⟨by simp; omega, fun x hx => ?_⟩
    simp at hx
    rcases hx with hx | rfl
    · exact hq x hx
    · exact hc2
  · rw [show (st.deed : Int) = 20 from e] at hr
    simp only [show ¬ ((20 : Int) = 21) by decide, show ¬ ((20 : Int) = 34) by decide, if_false, if_true, Option.mem_toList] at hr
    exact ⟨by have := reads_len hr; omega, fun x hx => hq x (reads_mem hr x hx)⟩
  · rw [show (st.deed : Int) = 33 from e] at hr
    simp only [show ¬ ((33 : Int) = 21) by decide, show ¬ ((33 : Int) = 34) by decide, show ¬ ((33 : Int) = 20) by decide, if_false, if_true, Option.mem_toList] at hr
    exact ⟨by have := reads_len hr; omega, fun x hx => hq x (reads_mem hr x hx)⟩
  · rw [show (st.deed : Int) = 32 from e] at hr
    simp at hr; subst hr
    refine ⟨by simp; omega, fun x hx => ?_⟩
    obtain ⟨y, _, rfl⟩ := List.mem_map.mp hx
    unfold swapL; split <;> simp
  · rw [show (st.deed : Int) = 35 from e] at hr
    simp at hr; subst hr
    refine ⟨?_, fun x hx => ?_⟩
    · have : ∀ q : List Nat, (q.flatMap fun x => [x, x]).length = 2 * q.length := fun q => by
        induction q with
        | nil => rfl
        | cons c r ih => rw [List.flatMap_cons, List.length_append, ih]; simp; omega
      rw [this]; omega
    · obtain ⟨y, hy, hx⟩ := List.mem_flatMap.mp hx
      simp at hx; subst hx; exact hq _ hy
  · rw [show (st.deed : Int) = 31 from e] at hr
    simp at hr; subst hr
    exact ⟨by simp; omega, fun x hx => hq x (by simpa using hx)⟩
  · rw [show (st.deed : Int) = 16 from e] at hr
    simp at hr; subst hr
    exact ⟨by omega, hq⟩
theorem forth_eq {one two : Nat} {sts : List Step} {left place : Nat} {q : List Nat} (hp : place ≠ 2) : forthL one two sts left place q = sts.any fun st => st.frm == place && (decide (1 < left) || (left == 1 && st.to == 2)) && (doneL one two st.deed st.sg q).any fun r => forthL one two sts (left - 1) st.to r := by
  have hp' : (place == 2) = false := by simpa using hp
  cases left with
  | zero => simp [forthL, hp']
  | succ n =>
    have e : ∀ st : Step, (decide (1 < n + 1) || st.to == 2) = (decide (1 < n + 1) || ((n + 1 == 1) && st.to == 2)) := fun st => by
      by_cases h : n = 0
      · subst h; rfl
      · have : 1 < n + 1 := by omega
        simp [this]
    simp only [forthL, hp', Bool.false_or, e, Nat.add_sub_cancel]
section
variable {w : World} {p : Program} {loose : List Str} {mg mb : Str → Option Value} {mean : ExcName → Option Value} {base : Heap}
def ForthJ (g : Heap) (outer : List Env) (ra : Addr) (one two place left : Nat) (q : List Nat) (t1 tp tq tl : Tok) (sts : List Step) (i : Nat) : Inv := fun m nx => FramesAre (fsOf outer) g nx ∧ m (Str.ofString "steps") = some (.ref ra) ∧ m (Str.ofString "letters") = some (.str (S [one, two]) t1) ∧ m (Str.ofString "place") = some (.int (natV place) tp) ∧ m (Str.ofString "queue") = some (.str (S q) tq) ∧ m (Str.ofString "left") = some (.int (natV left) tl) ∧ ((sts.take i).any fun st => st.frm == place && (decide (1 < left) || (left == 1 && st.to == 2)) && (doneL one two st.deed st.sg q).any fun r => forthL one two sts (left - 1) st.to r) = false
def AfterJ (g : Heap) (outer : List Env) (ra : Addr) (one two place left : Nat) (q : List Nat) (t1 tp tq tl : Tok) (sts : List Step) (own : List (Addr × Obj)) (st : Step) (tb : Tok) (i : Nat) : Inv := fun m nx => ∃ fe4, FramesAre (fsOf outer) g fe4 ∧ nx = fe4 ++ own ∧ m (Str.ofString "steps") = some (.ref ra) ∧ m (Str.ofString "letters") = some (.str (S [one, two]) t1) ∧ m (Str.ofString "place") = some (.int (natV place) tp) ∧ m (Str.ofString "queue") = some (.str (S q) tq) ∧ m (Str.ofString "left") = some (.int (natV left) tl) ∧ m (Str.ofString "goal") = some (.int (natV st.to) tb) ∧ (((doneL one two st.deed st.sg q).take i).any fun r => forthL one two sts (left - 1) st.to r) = false
theorem forth_ok {one two ra N : Nat} {vs : List Value} {sts : List Step} (h12 : one ≠ two) (h1 : one ≠ 46) (h2 : two ≠ 46) (XB : (hd.heap_39 w.params).In base) (TB : Top p loose mean mg mb base) (hgood : ∀ st ∈ sts, StepGood one two st) (hsl : sts.length ≤ 100) :
    ∀ (left : Nat) {d u : Nat} {fr : Option (List Env)} {gs : Option (List Code)} {outer : List Env} {E : Value → Shared → Prop} {s : Shared} {Q : Value → Shared → Prop} {place : Nat} {q : List Nat} {t1 tp tq tl : Tok},
    Below (Ar d fr gs u) base outer s.heap → KtsDicts (fsOf outer) s.heap → d + left + 2 < recursionLimit → s.heap.IsList ra vs.toArray → Paired (StepAt s.heap N) vs sts → N ≤ s.toks → (q.length + 2) * 2 ^ left ≤ 100 → (∀ x ∈ q, x = one ∨ x = two) →
    (∀ h' tk, KeepS (fsOf outer) s.heap h' → Q (.bool (forthL one two sts left place q)) { s with heap := h', toks := tk }) →
    wpAny (model prog w) (Ar d fr gs u) (call (.ref 113) [.ref ra, .str (S [one, two]) t1, .int (natV place) tp, .str (S q) tq, .int (natV left) tl] []) Q E s := by
  intro left
  induction left using Nat.strongRecOn with
  | _ left ih =>
    intro d u fr gs outer E s Q place q t1 tp tq tl K D hroom hl P hN hq hqs k
    have S0 := std_below K XB TB
    have hroom' : d < recursionLimit := by omega
    walk_at "my enter"
    obtain ⟨g0, H⟩ := hid_is (fsOf outer) s.heap
    obtain ⟨fe, FA, hfe⟩ := frames_in D
    rename Fr _ _ _ _ => F
    have F0 := hid_fr H F
    have N0 : News g0 s.heap.objs.size _ fe := fun q hq => ⟨F.keep _ _ (hfe q hq), Nat.ne_of_lt (Heap.lt_size (hfe q hq)), H.none_ _ (FA.1 q hq).1⟩
    have st0 : base.StaysIn g0 := fun b o e => H.get b o (K.stays b o e) fun hb => by rw [(K.frames.mem hb).1] at e; cases e
    have X0 := XB.keeps st0
    have T0 := topRead_of (TB.keeps st0)
    have hra := list_off D hl
    have hl0 : g0.IsList ra vs.toArray := hl.at fun o e => H.get ra o e hra
    have P0 : Paired (StepAt g0 N) vs sts := P.mono fun v st h => step_off D H h
    have hLf : s.heap.objs.size ∉ fsOf outer := fun hb => by obtain ⟨o, _, _, ho, _⟩ := D _ hb; exact absurd (Heap.lt_size ho) (Nat.lt_irrefl _)
    clear F
    rename News s.heap _ _ [] => Nold
    clear Nold
    repeat' walk_at "my stepL"
    · have e : forthL one two sts left place q = true := by
        have e2 : place = 2 := by have : natV place = 2 := by assumption
                                  simp only [natV] at this; omega
        subst e2; cases left <;> rfl
      rw [e] at k
      exact k _ _ (keepS_at H F0 N0 FA fun _ h => h)
    have hp2 : place ≠ 2 := by
      have : natV place ≠ 2 := by assumption
      simp only [natV] at this; omega
    refine wpAny_For ?_ (by intro _; rfl)
    repeat' walk_at "my stepL"
    refine iter_listT (n0 := N) (nx := fe) (ForthJ s.heap outer ra one two place left q t1 tp tq tl sts) rfl (hl0.at fun o e => F0.keep ra o e) (list_ne_frame hl) (fun p hp e => hra (e ▸ (FA.1 p hp).1)) F0 N0 ⟨FA, rfl, rfl, rfl, rfl, rfl, rfl⟩ (by show N ≤ (_ : Nat); dsimp only; omega) ?_ ?_ PassesOwn.never
    · rintro i v hv m₁ nx₁ h tk own htk ap ⟨FA1, e1, e2, e3, e4, e5, hno⟩ F N1
      obtain ⟨st, hst, T, tv, rfl, hT, ta, td, ts, tb, rfl, hts⟩ := paired_get P0 (by simpa using hv)
      have hT1 := hT.at fun o e => F.keep T o e
      have hst2 := List.mem_of_getElem? hst
      have Oo := off_of FA1 ap
      replace F := reveal5 F e1 e2 e3 e4 e5
      repeat' walk_at "my stepL"
      · have hc : (st.frm == place && (decide (1 < left) || (left == 1 && st.to == 2))) = true := by
          simp only [Bool.and_eq_true, Bool.or_eq_true, beq_iff_eq, decide_eq_true_eq]
          simp only [natV] at *
          omega
        have hl1 : 1 ≤ left := by
          simp only [Bool.and_eq_true, Bool.or_eq_true, beq_iff_eq, decide_eq_true_eq] at hc
          omega
        refine wpAny_For ?_ (by intro _; rfl)
        repeat' walk_at "my stepL"
        (rename News g0 _ _ _ => N2); (rename Fr g0 _ _ _ => F2)
        have hG := hgood st hst2
        refine wpAny_with_toks (n := N) ?ntkA (done_ok (p := p) (loose := loose) (mg := mg) (mb := mb) (mean := mean) (base := base) (outer := envOf (Str.ofString "_law_forth") _ s.heap.objs.size 113 (.ref 112) :: outer) (before_call K D H F2 N2 FA1 (fun p hp => List.mem_append_left _ hp)).1 XB TB (before_call K D H F2 N2 FA1 (fun p hp => List.mem_append_left _ hp)).2 (by show d + 1 + 1 < recursionLimit; omega) hG.1 (fun h => ?sgsA) ?qlA h12 h1 h2 hqs (fun h3 a3 tk3 kS3 fresh TX htk3 => ?_))
        case ntkA => show N ≤ (_ : Nat); dsimp only; omega
        case sgsA =>
          obtain ⟨c, hc1, _⟩ := hG.2 h
          have hh := hts (by rw [hc1]; simp)
          refine ⟨c, hc1, hh.1, ?_⟩
          exact Nat.lt_of_lt_of_le hh.2 (show N ≤ (_ : Nat) from by dsimp only; omega)
        case qlA =>
          have : 1 ≤ 2 ^ left := Nat.one_le_two_pow
          have h9 : (q.length + 2) * 1 ≤ (q.length + 2) * 2 ^ left := Nat.mul_le_mul_left _ this
          omega
        obtain ⟨fe3, FA3, F3, N3⟩ := after_call H F2 N2 FA1 Oo hLf kS3
        obtain ⟨dvs, dl, dtx⟩ := TX
        have hN2 := fun q hq => (N2 q hq).1
        have haL : a3 ≠ s.heap.objs.size := fun e => by obtain ⟨o, _, _, ho, _⟩ := F2.ns; rw [e] at fresh; rw [fresh] at ho; cases ho
        have hax : ∀ q ∈ fe3 ++ own, q.1 ≠ a3 := fun q hq e => by
          rcases List.mem_append.mp hq with hq | hq
          · obtain ⟨o, ho⟩ := FA1.2 _ (FA3.1 q hq).1
            have := hN2 _ (List.mem_append_left _ ho)
            rw [show (q.1, o).1 = a3 from e, fresh] at this; cases this
          · have := hN2 _ (List.mem_append_right _ hq)
            rw [e, fresh] at this; cases this
        clear F2 N2 hN2
        repeat' walk_at "my stepL"
        refine iter_listT (n0 := N) (nx := fe3 ++ own) (AfterJ s.heap outer ra one two place left q t1 tp tq tl sts own st tb) rfl dl haL hax F3 N3 ⟨fe3, FA3, rfl, rfl, rfl, rfl, rfl, rfl, rfl, rfl⟩ htk3 ?_ ?_ PassesOwn.never
        · rintro i5 v5 hv5 m₅ nx₅ h5 tk5 own5 htk5 ap5 ⟨fe5, FA5, rfl, e51, e52, e53, e54, e55, e56, hno5⟩ F N5
          obtain ⟨r, tr, hr, rfl⟩ := dtx.get (by simpa using hv5)
          have hr2 := List.mem_of_getElem? hr
          have Din := done_in hG hqs hr2
          have Oo5 : Off (fsOf outer) own5 := off_of FA5 fun p hp => ap5 p (List.mem_append_left _ hp)
          have ON : Off (fsOf outer) (own ++ own5) := fun p hp => (List.mem_append.mp hp).elim (Oo p) (Oo5 p)
          replace F := reveal6 F e51 e52 e53 e54 e55 e56
          rw [List.append_assoc] at N5
          repeat' walk_at "my stepL"
          (rename News g0 _ _ _ => N6); (rename Fr g0 _ _ _ => F6)
          rw [show natV left - 1 = natV (left - 1) by simp only [natV]; omega]
          have ih1 := @ih (left - 1) (by omega)
          refine ih1 (outer := envOf (Str.ofString "_law_forth") _ s.heap.objs.size 113 (.ref 112) :: outer) (before_call K D H F6 N6 FA5 (fun p hp => List.mem_append_left _ hp)).1 (before_call K D H F6 N6 FA5 (fun p hp => List.mem_append_left _ hp)).2 (by show d + 1 + (left - 1) + 2 < recursionLimit; omega) (hl0.at fun o e => F6.keep ra o e) (P0.mono fun v st h => StepAt.keep h F6.keep (Nat.le_refl _)) ?nkA ?qkA Din.2 (fun h7 tk7 kS7 => ?_)
          case nkA => show N ≤ (_ : Nat); dsimp only; omega
          case qkA =>
            obtain ⟨l', rfl⟩ : ∃ l', left = l' + 1 := ⟨left - 1, by omega⟩
            have h9 := Nat.mul_le_mul_right (2 ^ l') Din.1
            rw [Nat.pow_succ] at hq
            rw [Nat.add_sub_cancel]
            have h10 : 2 * (q.length + 2) * 2 ^ l' = (q.length + 2) * (2 ^ l' * 2) := by rw [Nat.mul_comm 2, Nat.mul_assoc, Nat.mul_comm 2]
            omega
          obtain ⟨fe7, FA7, F7, N7⟩ := after_call H F6 N6 FA5 ON hLf kS7
          clear F6 N6
          repeat' walk_at "my stepL"
          · have e9 : forthL one two sts left place q = true := by
              rw [forth_eq hp2]
              refine List.any_eq_true.mpr ⟨st, hst2, ?_⟩
              rw [hc]
              refine List.any_eq_true.mpr ⟨r, hr2, ?_⟩
              first | assumption | simp_all
            rw [e9] at k
            exact k _ _ (keepS_at H (by assumption) (by assumption) FA7 fun p hp => List.mem_append_left _ hp)
          · refine TEnd.mk (nx := fe7 ++ own) (by assumption) (by assumption) (fun p hp => ?m1A) (fun p hp => ?m2A) ?apA ⟨fe7, FA7, rfl, rfl, rfl, rfl, rfl, rfl, rfl, ?nnA⟩
            case m1A => exact (List.mem_append.mp hp).elim (fun h => List.mem_append_left _ h) (fun h => List.mem_append_right _ (List.mem_append_left _ h))
            case m2A => exact List.mem_append_right _ (List.mem_append_right _ hp)
            case apA => exact fun p hp => (List.mem_append.mp hp).elim (apart_of FA7 Oo5 p) (fun h => ap5 p (List.mem_append_right _ h))
            case nnA =>
              have e9 : forthL one two sts (left - 1) st.to r = false := by first | assumption | simp_all
              rw [List.take_add_one, hr, List.any_append, hno5]
              simp [e9]
        · rintro m₅ nx₅ h5 tk5 htk5 ⟨fe5, FA5, rfl, e51, e52, e53, e54, e55, e56, hno5⟩ F N5
          replace F := reveal6 F e51 e52 e53 e54 e55 e56
          repeat' walk_at "my stepL"
          refine TEnd.mk (nx := fe5) (by assumption) (by assumption) (fun p hp => List.mem_append_left _ hp) (fun p hp => List.mem_append_right _ hp) (apart_of FA5 Oo) ⟨FA5, rfl, rfl, rfl, rfl, rfl, ?_⟩
          have hlen : dvs.toArray.size = (doneL one two st.deed st.sg q).length := by simp [dtx.len]
          rw [hlen, List.take_length] at hno5
          rw [List.take_add_one, hst, List.any_append, hno]
          simp [hno5]
      · have hc : (st.frm == place && (decide (1 < left) || (left == 1 && st.to == 2))) = true := by
          simp only [Bool.and_eq_true, Bool.or_eq_true, beq_iff_eq, decide_eq_true_eq]
          simp only [natV] at *
          omega
        have hl1 : 1 ≤ left := by
          simp only [Bool.and_eq_true, Bool.or_eq_true, beq_iff_eq, decide_eq_true_eq] at hc
          omega
        refine wpAny_For ?_ (by intro _; rfl)
        repeat' walk_at "my stepL"
        (rename News g0 _ _ _ => N2); (rename Fr g0 _ _ _ => F2)
        have hG := hgood st hst2
        refine wpAny_with_toks (n := N) ?ntkB (done_ok (p := p) (loose := loose) (mg := mg) (mb := mb) (mean := mean) (base := base) (outer := envOf (Str.ofString "_law_forth") _ s.heap.objs.size 113 (.ref 112) :: outer) (before_call K D H F2 N2 FA1 (fun p hp => List.mem_append_left _ hp)).1 XB TB (before_call K D H F2 N2 FA1 (fun p hp => List.mem_append_left _ hp)).2 (by show d + 1 + 1 < recursionLimit; omega) hG.1 (fun h => ?sgsB) ?qlB h12 h1 h2 hqs (fun h3 a3 tk3 kS3 fresh TX htk3 => ?_))
        case ntkB => show N ≤ (_ : Nat); dsimp only; omega
        case sgsB =>
          obtain ⟨c, hc1, _⟩ := hG.2 h
          have hh := hts (by rw [hc1]; simp)
          refine ⟨c, hc1, hh.1, ?_⟩
          exact Nat.lt_of_lt_of_le hh.2 (show N ≤ (_ : Nat) from by dsimp only; omega)
        case qlB =>
          have : 1 ≤ 2 ^ left := Nat.one_le_two_pow
          have h9 : (q.length + 2) * 1 ≤ (q.length + 2) * 2 ^ left := Nat.mul_le_mul_left _ this
          omega
        obtain ⟨fe3, FA3, F3, N3⟩ := after_call H F2 N2 FA1 Oo hLf kS3
        obtain ⟨dvs, dl, dtx⟩ := TX
        have hN2 := fun q hq => (N2 q hq).1
        have haL : a3 ≠ s.heap.objs.size := fun e => by obtain ⟨o, _, _, ho, _⟩ := F2.ns; rw [e] at fresh; rw [fresh] at ho; cases ho
        have hax : ∀ q ∈ fe3 ++ own, q.1 ≠ a3 := fun q hq e => by
          rcases List.mem_append.mp hq with hq | hq
          · obtain ⟨o, ho⟩ := FA1.2 _ (FA3.1 q hq).1
            have := hN2 _ (List.mem_append_left _ ho)
            rw [show (q.1, o).1 = a3 from e, fresh] at this; cases this
          · have := hN2 _ (List.mem_append_right _ hq)
            rw [e, fresh] at this; cases this
        clear F2 N2 hN2
        repeat' walk_at "my stepL"
        refine iter_listT (n0 := N) (nx := fe3 ++ own) (AfterJ s.heap outer ra one two place left q t1 tp tq tl sts own st tb) rfl dl haL hax F3 N3 ⟨fe3, FA3, rfl, rfl, rfl, rfl, rfl, rfl, rfl, rfl⟩ htk3 ?_ ?_ PassesOwn.never
        · rintro i5 v5 hv5 m₅ nx₅ h5 tk5 own5 htk5 ap5 ⟨fe5, FA5, rfl, e51, e52, e53, e54, e55, e56, hno5⟩ F N5
          obtain ⟨r, tr, hr, rfl⟩ := dtx.get (by simpa using hv5)
          have hr2 := List.mem_of_getElem? hr
          have Din := done_in hG hqs hr2
          have Oo5 : Off (fsOf outer) own5 := off_of FA5 fun p hp => ap5 p (List.mem_append_left _ hp)
          have ON : Off (fsOf outer) (own ++ own5) := fun p hp => (List.mem_append.mp hp).elim (Oo p) (Oo5 p)
          replace F := reveal6 F e51 e52 e53 e54 e55 e56
          rw [List.append_assoc] at N5
          repeat' walk_at "my stepL"
          (rename News g0 _ _ _ => N6); (rename Fr g0 _ _ _ => F6)
          rw [show natV left - 1 = natV (left - 1) by simp only [natV]; omega]
          have ih1 := @ih (left - 1) (by omega)
          refine ih1 (outer := envOf (Str.ofString "_law_forth") _ s.heap.objs.size 113 (.ref 112) :: outer) (before_call K D H F6 N6 FA5 (fun p hp => List.mem_append_left _ hp)).1 (before_call K D H F6 N6 FA5 (fun p hp => List.mem_append_left _ hp)).2 (by show d + 1 + (left - 1) + 2 < recursionLimit; omega) (hl0.at fun o e => F6.keep ra o e) (P0.mono fun v st h => StepAt.keep h F6.keep (Nat.le_refl _)) ?nkB ?qkB Din.2 (fun h7 tk7 kS7 => ?_)
          case nkB => show N ≤ (_ : Nat); dsimp only; omega
          case qkB =>
            obtain ⟨l', rfl⟩ : ∃ l', left = l' + 1 := ⟨left - 1, by omega⟩
            have h9 := Nat.mul_le_mul_right (2 ^ l') Din.1
            rw [Nat.pow_succ] at hq
            rw [Nat.add_sub_cancel]
            have h10 : 2 * (q.length + 2) * 2 ^ l' = (q.length + 2) * (2 ^ l' * 2) := by rw [Nat.mul_comm 2, Nat.mul_assoc, Nat.mul_comm 2]
            omega
          obtain ⟨fe7, FA7, F7, N7⟩ := after_call H F6 N6 FA5 ON hLf kS7
          clear F6 N6
          repeat' walk_at "my stepL"
          · have e9 : forthL one two sts left place q = true := by
              rw [forth_eq hp2]
              refine List.any_eq_true.mpr ⟨st, hst2, ?_⟩
              rw [hc]
              refine List.any_eq_true.mpr ⟨r, hr2, ?_⟩
              first | assumption | simp_all
            rw [e9] at k
            exact k _ _ (keepS_at H (by assumption) (by assumption) FA7 fun p hp => List.mem_append_left _ hp)
          · refine TEnd.mk (nx := fe7 ++ own) (by assumption) (by assumption) (fun p hp => ?m1B) (fun p hp => ?m2B) ?apB ⟨fe7, FA7, rfl, rfl, rfl, rfl, rfl, rfl, rfl, ?nnB⟩
            case m1B => exact (List.mem_append.mp hp).elim (fun h => List.mem_append_left _ h) (fun h => List.mem_append_right _ (List.mem_append_left _ h))
            case m2B => exact List.mem_append_right _ (List.mem_append_right _ hp)
            case apB => exact fun p hp => (List.mem_append.mp hp).elim (apart_of FA7 Oo5 p) (fun h => ap5 p (List.mem_append_right _ h))
            case nnB =>
              have e9 : forthL one two sts (left - 1) st.to r = false := by first | assumption | simp_all
              rw [List.take_add_one, hr, List.any_append, hno5]
              simp [e9]
        · rintro m₅ nx₅ h5 tk5 htk5 ⟨fe5, FA5, rfl, e51, e52, e53, e54, e55, e56, hno5⟩ F N5
          replace F := reveal6 F e51 e52 e53 e54 e55 e56
          repeat' walk_at "my stepL"
          refine TEnd.mk (nx := fe5) (by assumption) (by assumption) (fun p hp => List.mem_append_left _ hp) (fun p hp => List.mem_append_right _ hp) (apart_of FA5 Oo) ⟨FA5, rfl, rfl, rfl, rfl, rfl, ?_⟩
          have hlen : dvs.toArray.size = (doneL one two st.deed st.sg q).length := by simp [dtx.len]
          rw [hlen, List.take_length] at hno5
          rw [List.take_add_one, hst, List.any_append, hno]
          simp [hno5]
      · have hc : (st.frm == place && (decide (1 < left) || (left == 1 && st.to == 2))) = false := by
          rw [Bool.eq_false_iff]
          intro hh
          simp only [Bool.and_eq_true, Bool.or_eq_true, beq_iff_eq, decide_eq_true_eq] at hh
          simp only [natV] at *
          omega
        refine TEnd.mk (nx := nx₁) (by assumption) (by assumption) (fun p hp => List.mem_append_left _ hp) (fun p hp => List.mem_append_right _ hp) ap ?_
        refine ⟨FA1, rfl, rfl, rfl, rfl, rfl, ?_⟩
        rw [List.take_add_one, hst, List.any_append, hno]
        simp [hc]
      · have hc : (st.frm == place && (decide (1 < left) || (left == 1 && st.to == 2))) = false := by
          rw [Bool.eq_false_iff]
          intro hh
          simp only [Bool.and_eq_true, Bool.or_eq_true, beq_iff_eq, decide_eq_true_eq] at hh
          simp only [natV] at *
          omega
        refine TEnd.mk (nx := nx₁) (by assumption) (by assumption) (fun p hp => List.mem_append_left _ hp) (fun p hp => List.mem_append_right _ hp) ap ?_
        refine ⟨FA1, rfl, rfl, rfl, rfl, rfl, ?_⟩
        rw [List.take_add_one, hst, List.any_append, hno]
        simp [hc]
      · have hc : (st.frm == place && (decide (1 < left) || (left == 1 && st.to == 2))) = false := by
          rw [Bool.eq_false_iff]
          intro hh
          simp only [Bool.and_eq_true, Bool.or_eq_true, beq_iff_eq, decide_eq_true_eq] at hh
          simp only [natV] at *
          omega
        refine TEnd.mk (nx := nx₁) (by assumption) (by assumption) (fun p hp => List.mem_append_left _ hp) (fun p hp => List.mem_append_right _ hp) ap ?_
        refine ⟨FA1, rfl, rfl, rfl, rfl, rfl, ?_⟩
        rw [List.take_add_one, hst, List.any_append, hno]
        simp [hc]
    · rintro m₁ nx₁ h tk htk ⟨FA1, e1, e2, e3, e4, e5, hno⟩ F N1
      repeat' walk_at "my stepL"
      have hlen : vs.toArray.size = sts.length := by simp [P.length]
      rw [hlen, List.take_length] at hno
      rw [forth_eq hp2, hno] at k
      exact k _ _ (keepS_at H (by assumption) (by assumption) FA1 fun _ h => h)
end
-- sort2
abbrev tupObj (vs : Array Value) : Obj := { cls := .type "tuple", data := .seq vs }
/-- the key of a text, as it lies in the ledger -/
def KeyTup (nt : List (Addr × Obj)) (v : Value) (x : List Nat) : Prop := ∃ T t1 t2, v = .ref T ∧ (T, tupObj #[.int (x.length : Nat) t1, .str (S x) t2]) ∈ nt
section
variable {w : World} {A : Around} {E : Value → Shared → Prop} {s : Shared} {h₀ : Heap} {L : Addr} {m : Str → Option Value}
/-- a text's key is told by a call of f -/
def LamCall (w : World) (A : Around) (h₀ : Heap) (L : Addr) (m : Str → Option Value) (f : Addr) (nx : List (Addr × Obj)) : Prop :=
  ∀ (s : Shared) (x : List Nat) (t : Tok) (Q : Value → Shared → Prop) (E : Value → Shared → Prop), x.length ≤ 100 → Fr h₀ L s.heap m → News h₀ L s.heap nx →
    (∀ h' T tk t1 t2, Keep s.heap h' → s.heap.get? T = none → h'.get? T = some (tupObj #[.int (x.length : Nat) t1, .str (S x) t2]) → Q (.ref T) { s with heap := h', toks := tk }) →
    wpAny (model prog w) A (call (.ref f) [.str (S x) t]) Q E s
theorem keys_ok {kS D f : Addr} {e1 : Nat} {nx : List (Addr × Obj)} {Fin : List Value → Nat → Shared → Prop} {all : List (List Nat)} {s₀ : Shared} (hc : LamCall w A h₀ L m f nx) :
    ∀ (rest : List (List Nat × Tok)) (ks : List Value) (done : List (List Nat)) (nt : List (Addr × Obj)) (e : Nat) (s : Shared), (∀ p ∈ rest, p.1.length ≤ 100) → Paired (KeyTup nt) ks done →
    (∃ h tk, s = { s₀ with heap := h, toks := tk }) → Fr h₀ L s.heap m → News h₀ L s.heap ((kS, seqObj "list" ks.toArray e) :: (nt ++ (D, seqObj "list" #[] e1) :: nx)) → (∀ p ∈ nt ++ (D, seqObj "list" #[] e1) :: nx, p.1 ≠ kS) → done ++ rest.map (·.1) = all →
    (∀ ks nt e s, Paired (KeyTup nt) ks all → (∃ h tk, s = { s₀ with heap := h, toks := tk }) → Fr h₀ L s.heap m → News h₀ L s.heap ((kS, seqObj "list" ks.toArray e) :: (nt ++ (D, seqObj "list" #[] e1) :: nx)) → (∀ p ∈ nt ++ (D, seqObj "list" #[] e1) :: nx, p.1 ≠ kS) → Fin ks e s) →
    KatKeys prog w A h₀ L m kS (.ref f) Fin (rest.map fun p => Value.str (S p.1) p.2) ks e s
  | [], ks, done, nt, e, s, _, P, hs, F, N, ap, hall, hf => by
    rw [List.map_nil, List.append_nil] at hall
    subst hall
    exact KatKeys.nil (hf ks nt e s P hs F N ap)
  | (x, t) :: rest, ks, done, nt, e, s, hx, P, hs, F, N, ap, hall, hf => by
    refine KatKeys.cons (hc s x t _ _ (hx _ (.head _)) F (fun p hp => N p (.tail _ (List.mem_append_right _ (.tail _ hp)))) fun h' T tk t1 t2 hk hT hT' => ?_)
    have hTL : T ≠ L := fun q => by obtain ⟨o, _, _, ho, _⟩ := F.ns; rw [q, ho] at hT; cases hT
    have hTk : ∀ p ∈ (kS, seqObj "list" ks.toArray e) :: (nt ++ (D, seqObj "list" #[] e1) :: nx), T ≠ p.1 := fun p hp q => by have := (N p hp).1; rw [← q, hT] at this; cases this
    have hT0 : h₀.get? T = none := by
      cases q : h₀.get? T with
      | none => rfl
      | some o => have := F.keep _ _ q; rw [hT] at this; cases this
    have ap' : ∀ p ∈ ((T, tupObj #[.int (x.length : Nat) t1, .str (S x) t2]) :: nt) ++ (D, seqObj "list" #[] e1) :: nx, p.1 ≠ kS := fun p hp => by
      rcases List.mem_cons.mp hp with rfl | hp
      · exact hTk _ (.head _)
      · exact ap p hp
    have N' : News h₀ L h' ((kS, seqObj "list" ks.toArray e) :: (((T, tupObj #[.int (x.length : Nat) t1, .str (S x) t2]) :: nt) ++ (D, seqObj "list" #[] e1) :: nx)) := fun p hp => by
      rcases List.mem_cons.mp hp with rfl | hp
      · have q := N _ (.head _); exact ⟨hk _ _ q.1, q.2⟩
      · rcases List.mem_cons.mp hp with rfl | hp
        · exact ⟨hT', hTL, hT0⟩
        · have q := N p (.tail _ hp); exact ⟨hk _ _ q.1, q.2⟩
    refine KatBack.intro (F.after hk) N' (.head ap') fun h'' c F'' N'' => ?_
    obtain ⟨hh, htk, rfl⟩ := hs
    refine keys_ok hc rest (ks ++ [.ref T]) (done ++ [x]) ((T, tupObj #[.int (x.length : Nat) t1, .str (S x) t2]) :: nt) c _ (fun p hp => hx p (.tail _ hp)) ((P.mono fun v y q => ?_).snoc ⟨T, t1, t2, rfl, .head _⟩) ⟨h'', tk, rfl⟩ F'' N'' ap' (by rw [← hall]; simp) hf
    obtain ⟨T', a, b, e, hm⟩ := q
    exact ⟨T', a, b, e, .tail _ hm⟩
theorem small_end {a kS : Addr} {vs ks : List Value} {e e1 : Nat} {P : PySem.Fin → Shared → Prop} (hl : ks.length = vs.length) (h2 : vs.length < 2) (h : KatFin h₀ L m kS a ks e e1 vs (fun s' => P (.done (.ret .none)) s') s) :
    wpAny (model prog w) A (ksk_end a false vs.toArray e1 (.ref kS) (List.toArray ks)) P E s := by
  unfold ksk_end
  have hn : vs.toArray.size < 2 := by rw [List.size_toArray]; exact h2
  simp only [Bool.false_eq_true, if_false]
  rw [if_pos hn, if_pos hn]
  refine wpAny_bind (wpAny_pure ?_)
  rw [StateT.run_pure]
  refine wpAny_bind (wpAny_pure ?_)
  refine kat_tail (b := false) (out := vs) ?_ (by omega) (by omega) rfl h
  apply Array.toList_inj.mp
  show (((List.toArray ks).zip vs.toArray).map (·.2)).toList = vs
  rw [Array.toList_map, ksk_zip]
  exact List.map_snd_zip (by show vs.length ≤ ks.length; omega)
theorem small_rest {a kS f : Addr} {vs : List Value} {e1 : Nat} {P : PySem.Fin → Shared → Prop} (hk : s.heap.get? kS = some (seqObj "list" #[] 0)) (h2 : vs.length < 2)
    (h : KatKeys prog w A h₀ L m kS (.ref f) (fun ks e s' => KatFin h₀ L m kS a ks e e1 vs (fun s4 => P (.done (.ret .none)) s4) s') vs [] 0 s) :
    wpAny (model prog w) A (ksk_rest a (.ref f) false vs.toArray e1 (.ref kS)) P E s := by
  unfold ksk_rest
  refine wpAny_bind (wpAny_rule ?_)
  first
    | rw [List.forIn_toArray]
    | (rw [← Array.forIn_toList]; simp only [List.toList_toArray])
    | rw [← Array.forIn_toList]
  refine wpAny_bind (wpAny_mono (kat_fold (n := vs.length) (by omega) (fun x ks e s' C hz hx => ?_) vs [] 0 s (by simp) hk h) (fun _ s' hd => ?_) fun _ _ x => x)
  · refine wpAny_bind (wpAny_attempt (wpAny_mono hx (fun k s'' hk => ?_) fun _ _ hF => hF.elim))
    obtain ⟨news', g, F', N', U, c⟩ := hk
    obtain ⟨pre, post, e0, hg, x1, x2⟩ := U.split
    rw [e0] at N'
    have nk := N' (kS, seqObj "list" (List.toArray ks) e) (List.mem_append_right _ (.head _))
    have s1 := Heap.SameBut.update s''.heap kS (Obj.mapSeq (·.push k))
    have ea : (List.toArray ks).push k = List.toArray (ks ++ [k]) := by simp
    obtain ⟨c2, hc2⟩ : ∃ c2, (s''.heap.update kS (Obj.mapSeq (·.push k))).get? kS = some (seqObj "list" (List.toArray (ks ++ [k])) c2) := ⟨_, by rw [← ea]; exact get?_update_seq nk.1 (·.push k)⟩
    try dsimp only
    refine wpAny_bind (listUpdate_at nk.1 rfl ?_ (by rw [List.size_toArray, sizeLine_eq]; omega) (Nat.le_trans (Nat.le_of_eq (Array.size_push ..)) (by rw [List.size_toArray, sizeLine_eq]; omega)))
    exact wpAny_pure ⟨rfl, k, c2, hc2, c _ c2 (kas_fr F' s1 nk.2.1 nk.2.2) (by rw [hg]; exact news_set N' x1 x2 s1 hc2)⟩
  · obtain ⟨ks, e, hk', hl, fin⟩ := hd
    try dsimp only
    refine wpAny_bind (listItems_at hk' rfl ?_)
    exact small_end hl h2 fin
theorem small_sorted {l f : Addr} {vs : List Value} {kw : List (Str × Value)} {news : List (Addr × Obj)} {Q : Value → Shared → Prop} (F : Fr h₀ L s.heap m) (N : News h₀ L s.heap news) (hl : s.heap.IsList l vs.toArray) (h2 : vs.length < 2)
    (ha1 : argsOk "sorted" ⟨[.ref l], kw⟩) (ha2 : ∀ x, argsOk "list.sort" ⟨[.ref x], kw⟩) (ht : ∀ x, Builtin.«list.sort» ⟨[.ref x], kw⟩ = ksk_tree x (.ref f) false)
    (h : ∀ D kS e1 h', Fr h₀ L h' m → News h₀ L h' ((kS, seqObj "list" #[] 0) :: (D, seqObj "list" #[] e1) :: news) → D < kS → (∀ q ∈ news, q.1 < D) →
      KatKeys prog w A.in1.in1 h₀ L m kS (.ref f) (fun ks e s' => KatFin h₀ L m kS D ks e e1 vs (fun s4 => Q (.ref D) s4) s') vs [] 0 { s with heap := h' }) :
    wpAny (model prog w) A (call (.builtin "sorted") [.ref l] kw) Q E s := by
  refine call_function_entry_kw kind_sorted plain_sorted entry_sorted ha1 ?_
  unfold Builtin.«sorted»
  refine wpAny_bind (m := checkCount "sorted" 1 1 _) (wpAny_pure ?_)
  refine wpAny_bind (collect_list hl ?_ (by rw [sizeLine_eq]; omega))
  refine wpAny_bind (wpAny_newList ?_ (by rw [sizeLine_eq]; omega))
  have hsz : ((s.heap.push (seqObj "list" #[] 0)).update s.heap.objs.size (Obj.mapSeq (· ++ vs.toArray))).objs.size = s.heap.objs.size + 1 := by
    rw [Heap.size_update, size_push']
  generalize hg : (s.heap.push (seqObj "list" #[] 0)).update s.heap.objs.size (Obj.mapSeq (· ++ vs.toArray)) = g1 at hsz
  have keep1 : ∀ b o, s.heap.get? b = some o → g1.get? b = some o := fun b o q => by
    have hlt : b < s.heap.objs.size := Heap.lt_size q
    rw [← hg, Heap.get?_update_ne _ _ _ _ (Nat.ne_of_lt hlt), Heap.get?_push_ne _ _ _ (Nat.ne_of_lt hlt)]
    exact q
  have hL : @LT.lt Nat _ L s.heap.objs.size := F.ns.lt
  show wpAny _ _ _ _ _ { s with heap := g1.push (seqObj "list" vs.toArray 0) }
  rw [hsz]
  have hoL : (g1.push (seqObj "list" vs.toArray 0)).get? (s.heap.objs.size + 1) = some (seqObj "list" vs.toArray 0) := by rw [← hsz]; exact Heap.get?_push_size _ rfl
  refine wpAny_bind (wpAny_holding (wpAny_call_entry_kw slot_list_sort ⟨_, hoL, rfl⟩ entry_list_sort ?body (ha2 _)))
  case body =>
    have ht' := ht (s.heap.objs.size + 1)
    show wpAny (model prog w) A.in1.in1 (Builtin.«list.sort» ⟨[.ref (s.heap.objs.size + 1)], kw⟩) _ _ _
    rw [ht']
    have kp : ∀ b o, s.heap.get? b = some o → (g1.push (seqObj "list" vs.toArray 0)).get? b = some o := fun b o q => Heap.get?_push_of_some _ (keep1 b o q)
    have F0 : Fr h₀ L (g1.push (seqObj "list" vs.toArray 0)) m := F.after kp
    have N0 : News h₀ L (g1.push (seqObj "list" vs.toArray 0)) news := News.keepsAll N kp
    have ha : s.heap.objs.size + 1 ≠ L := Nat.ne_of_gt (Nat.lt_succ_of_lt hL)
    have ha0 : h₀.get? (s.heap.objs.size + 1) = none := Heap.get?_none_of_le (Nat.le_trans F.above (Nat.le_of_lt (Nat.lt_succ_of_lt hL)))
    have hna : ∀ p ∈ news, p.1 ≠ s.heap.objs.size + 1 := fun p hp => Nat.ne_of_lt (Nat.lt_succ_of_lt (Heap.lt_size (N p hp).1))
    have hz0 : (g1.push (seqObj "list" vs.toArray 0)).objs.size = s.heap.objs.size + 2 := by rw [size_push', hsz]
    generalize g1.push (seqObj "list" vs.toArray 0) = g2 at hoL F0 N0 hz0
    have s1 := Heap.SameBut.update g2 (s.heap.objs.size + 1) (Obj.mapSeq fun _ => (#[] : Array Value))
    obtain ⟨e1, ho1⟩ : ∃ e1, (g2.update (s.heap.objs.size + 1) (Obj.mapSeq fun _ => (#[] : Array Value))).get? (s.heap.objs.size + 1) = some (seqObj "list" #[] e1) := ⟨_, get?_update_seq hoL fun _ => #[]⟩
    have F1 := kas_fr F0 s1 ha ha0
    have N1 := kas_news N0 s1 hna
    have hz1 : (g2.update (s.heap.objs.size + 1) (Obj.mapSeq fun _ => (#[] : Array Value))).objs.size = s.heap.objs.size + 2 := by rw [Heap.size_update, hz0]
    unfold ksk_tree
    refine wpAny_bind (listItems_at hoL rfl ?_)
    refine wpAny_bind (listUpdate_at hoL rfl ?_ (by rw [List.size_toArray, sizeLine_eq]; omega) (Nat.zero_le _))
    refine wpAny_bind (seqEpoch_at ho1 rfl ?_)
    refine wpAny_bind (wpAny_newTuple ?_ (by show vs.length ≤ _; rw [sizeLine_eq]; omega))
    refine wpAny_bind (wpAny_newList ?_ (Nat.zero_le _))
    refine wpAny_holding ?_
    have hz2 : ((g2.update (s.heap.objs.size + 1) (Obj.mapSeq fun _ => (#[] : Array Value))).push (seqObj "tuple" vs.toArray 0)).objs.size = s.heap.objs.size + 3 := by rw [size_push', hz1]
    refine small_rest (s := { s with heap := ((g2.update (s.heap.objs.size + 1) (Obj.mapSeq fun _ => (#[] : Array Value))).push (seqObj "tuple" vs.toArray 0)).push (seqObj "list" #[] 0) }) (kS := ((g2.update (s.heap.objs.size + 1) (Obj.mapSeq fun _ => (#[] : Array Value))).push (seqObj "tuple" vs.toArray 0)).objs.size)
      (Heap.get?_push_size _ rfl) h2 (kat_keys_mono (h _ _ e1 _ ((F1.push _).push _) (fun p hp => ?_) (by rw [hz2]; exact Nat.lt_succ_of_lt (Nat.lt_succ_self _)) (fun q hq => Nat.lt_succ_of_lt (Heap.lt_size (N q hq).1))) fun ks e s' _ hd => hd.mono fun s4 hq => ⟨_, rfl, wpAny_pure ⟨_, rfl, hq⟩⟩)
    rcases List.mem_cons.mp hp with rfl | hp
    · exact ⟨Heap.get?_push_size _ rfl, by rw [hz2]; exact Nat.ne_of_gt (Nat.lt_of_lt_of_le hL (Nat.le_add_right _ _)), Heap.get?_none_of_le (Nat.le_trans F.above (by rw [hz2]; exact Nat.le_trans (Nat.le_of_lt hL) (Nat.le_add_right _ _)))⟩
    · rcases List.mem_cons.mp hp with rfl | hp
      · exact ⟨Heap.get?_push_of_some _ (Heap.get?_push_of_some _ ho1), ha, ha0⟩
      · exact ⟨Heap.get?_push_of_some _ (Heap.get?_push_of_some _ (N1 p hp).1), (N1 p hp).2⟩
theorem keyTup_tups {h : Heap} {nt : List (Addr × Obj)} (hm : ∀ p ∈ nt, h.get? p.1 = some p.2) : ∀ {ks : List Value} {all : List (List Nat)}, Paired (KeyTup nt) ks all → ∃ fs : List Value, fs.length = ks.length ∧ KatTups h ks fs ∧ ∀ v ∈ fs, ∃ n t, v = .int n t
  | _, _, .nil => ⟨[], rfl, KatTups.nil, fun _ h => nomatch h⟩
  | _, _, .cons hr P => by
    obtain ⟨fs, hl, T, hi⟩ := keyTup_tups hm P
    obtain ⟨T', t1, t2, rfl, hmem⟩ := hr
    refine ⟨_ :: fs, by simp [hl], KatTups.cons (hm _ hmem) rfl rfl rfl T, fun v hv => ?_⟩
    rcases List.mem_cons.mp hv with rfl | hv
    · exact ⟨_, _, rfl⟩
    · exact hi v hv
theorem texts_pick {vs : List Value} {ws : List (List Nat)} (T : TextsAre vs ws) {p : Array Nat} (hp : PermN vs.length p) : ∃ ps, TextsAre (p.toList.map fun i => vs.getD i Value.none) ps ∧ ps.Perm ws := by
  obtain ⟨l, rfl, rfl⟩ := T
  refine ⟨p.toList.map fun i => (l.getD i ([], 0)).1, ⟨p.toList.map fun i => l.getD i ([], 0), ?_, ?_⟩, ?_⟩
  · rw [List.map_map]
    refine List.map_congr_left fun i hi => ?_
    have hlt : i < l.length := by have := List.mem_range.mp (hp.mem_iff.mp hi); simpa using this
    simp [hlt]
  · rw [List.map_map]; rfl
  · have e : (List.range l.length).map (fun i => (l.getD i ([], 0)).1) = l.map (·.1) := by
      apply List.ext_getElem
      · simp
      · intro i h1 h2
        have hlt : i < l.length := by simpa using h1
        simp [hlt]
    rw [← e]
    have hp' : p.toList.Perm (List.range l.length) := by have := hp; unfold PermN at this; simpa using this
    exact hp'.map _
theorem sorted_ok {l f : Addr} {vs : List Value} {ws : List (List Nat)} {nx : List (Addr × Obj)} {Q : Value → Shared → Prop} (F : Fr h₀ L s.heap m) (N : News h₀ L s.heap nx) (hl : s.heap.IsList l vs.toArray) (T : TextsAre vs ws) (h64 : vs.length < 64) (hx : ∀ x ∈ ws, x.length ≤ 100)
    (hc : LamCall w A.in1.in1 h₀ L m f nx)
    (k : ∀ D out ps h' c tk, Fr h₀ L h' m → News h₀ L h' ((D, listOf (List.toArray out) c) :: nx) → (∀ q ∈ nx, q.1 < D) → TextsAre out ps → ps.Perm ws → Q (.ref D) { s with heap := h', toks := tk }) :
    wpAny (model prog w) A (call (.builtin "sorted") [.ref l] [(Str.ofString "key", .ref f)]) Q E s := by
  have idX := T
  obtain ⟨lt, rfl, rfl⟩ := idX
  have hx' : ∀ p ∈ lt, p.1.length ≤ 100 := fun p hp => hx _ (List.mem_map_of_mem hp)
  have fin : ∀ (D kS : Addr) (e1 : Nat) (ks : List Value) (nt : List (Addr × Obj)) (e : Nat) (s' : Shared) (out : List Value) (ps : List (List Nat)), (∃ h tk, s' = { s with heap := h, toks := tk }) → Fr h₀ L s'.heap m →
      News h₀ L s'.heap ((kS, seqObj "list" ks.toArray e) :: (nt ++ (D, seqObj "list" #[] e1) :: nx)) → (∀ p ∈ nt ++ (D, seqObj "list" #[] e1) :: nx, p.1 ≠ kS) → (∀ q ∈ nx, q.1 < D) → TextsAre out ps → ps.Perm (lt.map (·.1)) →
      KatFin h₀ L m kS D ks e e1 out (fun s4 => Q (.ref D) s4) s' := by
    rintro D kS e1 ks nt e s' out ps ⟨hh, tk, rfl⟩ F' N' ap hlt TO hp
    refine KatFin.intro F' N' (.head ap) fun h2 c2 F2 N2 => ?_
    have N3 : News h₀ L h2 ((D, seqObj "list" #[] e1) :: nx) := fun p hp => N2 p (.tail _ (List.mem_append_right _ hp))
    exact KasFin.intro F2 N3 (.head fun p hp => Nat.ne_of_lt (hlt p hp)) fun h3 c3 F3 N4 => k D out ps h3 c3 tk F3 N4 hlt TO hp
  by_cases h2 : 2 ≤ (lt.map fun p => Value.str (S p.1) p.2).length
  · refine kat_sortedK (b := false) F N hl h2 h64 (ksk_s1 _ _) (fun x => ksk_l1 _ _) (fun x => ksk_t1 f x) fun D kS e1 h' F' N' hDk hlt => ?_
    refine keys_ok (s₀ := s) (all := lt.map (·.1)) hc lt [] [] [] 0 _ hx' .nil ⟨h', _, rfl⟩ F' N' (fun p hp => ?_) rfl fun ks nt e s' P hs F2 N2 ap => ?_
    · rcases List.mem_cons.mp hp with rfl | hp
      · exact Nat.ne_of_lt hDk
      · exact Nat.ne_of_lt (Nat.lt_trans (hlt p hp) hDk)
    · have hm : ∀ p ∈ nt, s'.heap.get? p.1 = some p.2 := fun p hp => (N2 p (.tail _ (List.mem_append_left _ hp))).1
      obtain ⟨fs, hfl, KT, hfi⟩ := keyTup_tups hm P
      have hkl := P.length
      have hkn : ks.length = (lt.map fun p => Value.str (S p.1) p.2).length := by rw [hkl]; simp
      refine kat_kind (T := .type "int") KT (by omega) (fun v hv => by obtain ⟨n, t, rfl⟩ := hfi v hv; exact Looks.of_pure rfl) rfl ?_
      refine treeOk_wp (n := (lt.map fun p => Value.str (S p.1) p.2).length) (P := PermN (lt.map fun p => Value.str (S p.1) p.2).length) (I := fun s2 => s2 = s') ?_ ?_ _ _ (tree_sort (by omega)) rfl
      · rintro i j C s2 hi hj rfl hC
        obtain ⟨x, hxi, T1, a1, a2, e1', m1⟩ := paired_get P (i := i) (x := ks.getD i .none) (by rw [List.getD_eq_getElem?_getD, List.getElem?_eq_getElem (by omega)]; rfl)
        obtain ⟨y, hyj, T2, b1, b2, e2', m2⟩ := paired_get P (i := j) (x := ks.getD j .none) (by rw [List.getD_eq_getElem?_getD, List.getElem?_eq_getElem (by omega)]; rfl)
        show wpAny _ _ (keyLt' _ (ks.getD i .none) (ks.getD j .none)) _ _ _
        rw [e1', e2']
        refine kat_lt (hm _ m1) rfl (hm _ m2) rfl ?_
        refine kat_cons (wpAny_eqBool_int (kat_go (fun _ => kat_yes (kat_cons (wpAny_eqBool_str (kat_go (fun _ => kat_yes (kat_nil (hC _ _ rfl))) fun _ => kat_no (kat_one _ _ ?_))))) fun _ => kat_no (oneLt_int (hC _ _ rfl))))
        exact PySem.P.lt_str (hC _ _ rfl)
      · rintro p s2 hp rfl
        obtain ⟨ps, TO, hpp⟩ := texts_pick T hp
        exact fin D kS e1 ks nt e _ _ ps hs F2 N2 ap hlt TO hpp
  · refine small_sorted F N hl (by omega) (ksk_s1 _ _) (fun x => ksk_l1 _ _) (fun x => ksk_t1 f x) fun D kS e1 h' F' N' hDk hlt => ?_
    refine keys_ok (s₀ := s) (all := lt.map (·.1)) hc lt [] [] [] 0 _ hx' .nil ⟨h', _, rfl⟩ F' N' (fun p hp => ?_) rfl fun ks nt e s' P hs F2 N2 ap => ?_
    · rcases List.mem_cons.mp hp with rfl | hp
      · exact Nat.ne_of_lt hDk
      · exact Nat.ne_of_lt (Nat.lt_trans (hlt p hp) hDk)
    · exact fin D kS e1 ks nt e _ _ _ hs F2 N2 ap hlt T (.refl _)
end
-- lam
section
variable {w : World} {A : Around} {E : Value → Shared → Prop} {s : Shared} {p : Program} {loose : List Str} {mg mb : Str → Option Value}
/-- a lambda without cells is entered -/
theorem enterLam {Q : Value → Shared → Prop} {name qual : Str} {params : Arguments} {body : Expr} {scope : Scope} {pm ctv : Value} {f c' : Addr} {args : List Value}
    (S : Std w p loose mg mb s.heap) (hroom : A.depth < recursionLimit) (ho : s.heap.get? f = some (kla_obj name qual params body scope [] pm c' ctv)) (hcd : s.heap.CodeRec (.ref c') qual)
    (hbind : bindArgs (kla_fn name qual params body scope [] pm (.ref c') ctv) ⟨args, []⟩ = pure (posB params args)) (hloc : ∀ y ∈ posB params args, scope.names.lookup y.1 = some .local)
    (h : ∀ h₁, Fr s.heap s.heap.objs.size h₁ (bmap (posB params args).reverse) → News s.heap s.heap.objs.size h₁ [] → (hd.heap_39 w.params).In s.heap → TopRead p loose mg mb s.heap →
      wpAny (model prog w) (A.deeper (envOf qual scope s.heap.objs.size f (.ref c'))) (eval body (envOf qual scope s.heap.objs.size f (.ref c'))) Q (fun _ _ => False) { s with heap := h₁, toks := s.toks + (posB params args).length })
    (hco : scope.isCoroutine = false) (hgen : scope.isGenerator = false) (hk : scope.kind = .function) (hcell : ∀ x ∈ scope.names, x.2 ≠ .cell) :
    wpAny (model prog w) A (call (.ref f) args []) Q E s := by
  refine wpAny_call (kla_callFunE hroom ho rfl hco hgen rfl hcd ?_)
  rw [hbind]
  refine wpAny_pure (wpAny_newFunctionEnv hcell hloc (fun h₁ hns hsb => ⟨S.T.nolimit.fresh _ hsb, ?_⟩) hk)
  have e : (fun x => (posB params args).reverse.lookup x) = bmap (posB params args).reverse := funext fun y => bmap_lookup _ y
  rw [e] at hns
  have hk₁ : ∀ b o, s.heap.get? b = some o → h₁.get? b = some o := fun b o e => hsb.extBut b o (Nat.ne_of_lt (Heap.lt_size e)) (Heap.get?_push_of_some _ e)
  show codeAny _ _ (.expr body (envOf qual scope s.heap.objs.size f (.ref c'))) _ _
  exact kla_codeExpr (wpAny_mono (h h₁ ⟨hns, hk₁, Nat.le_refl _⟩ News.nil S.X S.T) (fun _ _ x => x) fun _ _ x => x.elim)
end
theorem triples_snoc {a b : Int} {c : Value} : ∀ l : List Value, TriplesOk l → TriplesOk (l ++ [rawInt a, rawInt b, c])
  | [], _ => trivial
  | .int _ _ :: .int _ _ :: _ :: rest, h => triples_snoc rest h
def CodeKept (g : Heap) (nx : List (Addr × Obj)) (c' : Addr) (qual : Str) : Prop := ∃ oc vs t, (g.get? c' = some oc ∨ (c', oc) ∈ nx) ∧ oc.data = .fields vs ∧ vs[1]? = some (.str qual t)
theorem CodeKept.at {g h : Heap} {L : Addr} {m : Str → Option Value} {nx nx' : List (Addr × Obj)} {c' : Addr} {qual : Str} (C : CodeKept g nx c' qual) (F : Fr g L h m) (N : News g L h nx') (hs : ∀ p ∈ nx, p ∈ nx') : ∃ oc vs t, h.get? c' = some oc ∧ oc.data = .fields vs ∧ vs[1]? = some (.str qual t) := by
  obtain ⟨oc, vs, t, hh, hd, hv⟩ := C
  refine ⟨oc, vs, t, ?_, hd, hv⟩
  rcases hh with hh | hh
  · exact F.keep _ _ hh
  · exact (N _ (hs _ hh)).1
section
variable {M : Model} {A : Around} {E : Value → Shared → Prop} {s : Shared} {h₀ : Heap} {L a c P : Addr} {m mg mb : Str → Option Value} {cn : Str} {cs : Scope} {p : Program} {loose : List Str} {mean : ExcName → Option Value} {name qual : Str} {params : Arguments} {body : Expr} {scope : Scope} {ps : Array Value} {pos : Pos} {firstLine : Nat}
theorem updF_app {d : Addr} {o : Obj} : ∀ {pre : List (Addr × Obj)}, (∀ p ∈ pre, p.1 ≠ d) → UpdF d o (pre ++ [(d, o)]) (fun o' => pre ++ [(d, o')])
  | [], _ => .head fun p hp => nomatch hp
  | q :: r, h => .tail (h q (.head _)) (updF_app fun p hp => h p (.tail _ hp))
theorem lam_made {Q : Value → Shared → Prop} {pre : List (Addr × Obj)} (F : Fr h₀ L s.heap m) (N : News h₀ L s.heap (pre ++ [(P, tabObj ps)])) (hpre : ∀ p ∈ pre, p.1 ≠ P) (T : Top p loose mean mg mb h₀) (C : CodeHd h₀ c P) (ht : TriplesOk ps.toList)
    (hst : codeAmong pos ps.toList = none ∨ ∃ c' oc vs t, codeAmong pos ps.toList = some (.ref c') ∧ h₀.get? c' = some oc ∧ oc.data = .fields vs ∧ vs[1]? = some (.str qual t)) (hcl : closureFor scope (envX cn cs L a (.ref c) []) = pure [])
    (h : ∀ f c' ctv h' tk nx ps', Fr h₀ L h' m → News h₀ L h' ((f, kla_obj name qual params body scope [] ((mg "__name__").getD .none) c' ctv) :: nx) → (P, tabObj ps') ∈ nx → (∀ p ∈ pre, p ∈ nx) → TriplesOk ps'.toList → codeAmong pos ps'.toList = some (.ref c') → CodeKept h₀ nx c' qual → c' ≠ P → (codeAmong pos ps.toList = some (.ref c') ∨ h₀.get? c' = none) →
      Q (.ref f) { s with heap := h', toks := tk }) :
    wpAny M A (makeFunction name qual params (.expr body) scope (envX cn cs L a (.ref c) []) [] [] [] pos firstLine) Q E s := by
  rcases hst with hn | ⟨c', oc, vs, t, hf, hg, hd, hv⟩
  · refine kla_nest F N T C rfl (updF_app hpre) ht hn hcl fun f c' oc vs t ctv h' tk F' N' hd hv hlt _ => ?_
    refine h f c' ctv h' tk _ _ F' N' (.tail _ (List.mem_append_right _ (.head _))) (fun p hp => .tail _ (List.mem_append_left _ hp)) ?_ ?_ ⟨oc, vs, t, .inr (.head _), hd, hv⟩ (Nat.ne_of_gt (hlt (P, tabObj ps) (List.mem_append_right _ (.head _)))) (.inr (N' _ (.tail _ (.head _))).2.2)
    · rw [Array.toList_append]; exact triples_snoc _ ht
    · rw [Array.toList_append]; exact codeAmong_snoc _ ht hn
  · refine kla_hit F N T C rfl (List.mem_append_right _ (.head _)) ht hf hcl fun f ctv h' tk F' N' _ => ?_
    refine h f c' ctv h' tk _ _ F' N' (List.mem_append_right _ (.head _)) (fun p hp => List.mem_append_left _ hp) ht hf ⟨oc, vs, t, .inl hg, hd, hv⟩ (fun e => ?_) (.inl hf)
    have := (N _ (List.mem_append_right _ (.head _))).2.2
    rw [← e] at this
    rw [show ((c', tabObj ps) : Addr × Obj).1 = c' from rfl, hg] at this; cases this
end
abbrev lamPos : Pos := { line := 182, col := 34, endLine := 182, endCol := 64 }
abbrev lamQual : Str := Str.ofString "_law_least" ++ ".<locals>." ++ "<lambda>"
/-- the table of the codes of the lambda -/
def TabOk (h : Heap) : Prop := ∃ ps, h.get? 134 = some (tabObj ps) ∧ TriplesOk ps.toList ∧ (codeAmong lamPos ps.toList = none ∨ ∃ c' oc vs t, codeAmong lamPos ps.toList = some (.ref c') ∧ c' ≠ 134 ∧ h.get? c' = some oc ∧ oc.data = .fields vs ∧ vs[1]? = some (.str lamQual t))
/-- the code in the table -/
def TabC (h : Heap) (c' : Addr) : Prop := ∃ ps, h.get? 134 = some (tabObj ps) ∧ codeAmong lamPos ps.toList = some (.ref c')
structure LamBase (w : World) (p : Program) (loose : List Str) (mean : ExcName → Option Value) (mg mb : Str → Option Value) (base : Heap) : Prop where
  X : (hd.heap_39 w.params).In base
  T : Top p loose mean mg mb base
  C : CodeHd base 138 134
  no : base.get? 134 = none
def Keep1 (h h' : Heap) : Prop := ∀ b o, b ≠ 134 → h.get? b = some o → h'.get? b = some o
def LeastOf (ws kept : List (List Nat)) : Prop := (∀ x ∈ kept, x ∈ ws) ∧ kept.length ≤ ws.length ∧ ∀ q, takesL kept q = takesL ws q
theorem takes_more {kept : List (List Nat)} {x q : List Nat} (h : takesL kept x = true) (hx : x.isSublist q = true) : takesL kept q = true := by
  obtain ⟨y, hy, hyx⟩ := List.any_eq_true.mp h
  exact List.any_eq_true.mpr ⟨y, hy, List.isSublist_iff_sublist.mpr ((List.isSublist_iff_sublist.mp hyx).trans (List.isSublist_iff_sublist.mp hx))⟩
section
variable {w : World} {p : Program} {loose : List Str} {mg mb : Str → Option Value} {mean : ExcName → Option Value} {base : Heap} {gs : Option (List Code)} {d u : Nat} {fr : Option (List Env)} {E : Value → Shared → Prop} {s : Shared} {Q : Value → Shared → Prop}
theorem least_ok {ws : List (List Nat)} {a : Addr} (LB : LamBase w p loose mean mg mb base) (st : base.StaysIn s.heap) (TO : TabOk s.heap) (hroom : d + 2 < recursionLimit) (T : TextsAt s.heap a ws) (hlen : ws.length < 64) (hws : ∀ x ∈ ws, x.length ≤ 100 ∧ ∀ c ∈ x, c ≠ 46)
    (k : ∀ h' b kept tk, Keep1 s.heap h' → TabOk h' → (∀ c', TabC h' c' → TabC s.heap c' ∨ s.heap.get? c' = none) → s.heap.get? b = none → TextsAt h' b kept → LeastOf ws kept → Q (.ref b) { s with heap := h', toks := tk }) :
    wpAny (model prog w) (Ar d fr gs u) (call (.ref 139) [.ref a] []) Q E s := by
  obtain ⟨vs, hl, tx⟩ := T
  have hroom' : d < recursionLimit := by omega
  have hroom1 : d + 1 < recursionLimit := by omega
  have S0 : Std w p loose mg mb s.heap := ⟨LB.X.keeps st, topRead_of (LB.T.keeps st)⟩
  obtain ⟨ps, hps, htr, hcode⟩ := TO
  walk_at "my enter"
  obtain ⟨g0, H⟩ := hid_is [134] s.heap
  rename Fr _ _ _ _ => F
  have F0 := hid_fr H F
  have N0 : News g0 s.heap.objs.size _ [(134, tabObj ps)] := fun q hq => by
    rw [List.mem_singleton.mp hq]
    exact ⟨F.keep _ _ hps, Nat.ne_of_lt (Heap.lt_size hps), H.none_ _ (.head _)⟩
  have st0 : base.StaysIn g0 := fun b o e => H.get b o (st b o e) fun hb => by rw [List.mem_singleton.mp hb, LB.no] at e; cases e
  have X0 := LB.X.keeps st0
  have T1 := LB.T.keeps st0
  have T0 := topRead_of T1
  have C0 : CodeHd g0 138 134 := LB.C.keeps st0
  have hsub : ∀ b o, b ≠ 134 → s.heap.get? b = some o → g0.get? b = some o := fun b o hb e => H.get b o e fun hm => hb (List.mem_singleton.mp hm)
  have ha : a ≠ 134 := fun e => by
    obtain ⟨o, ho, hc, n, hd'⟩ := hl
    rw [e, hps] at ho; cases ho; cases hd'
  have hl0 : g0.IsList a vs.toArray := hl.at fun o e => hsub a o ha e
  have hcode0 : codeAmong lamPos ps.toList = none ∨ ∃ c' oc vs t, codeAmong lamPos ps.toList = some (.ref c') ∧ g0.get? c' = some oc ∧ oc.data = .fields vs ∧ vs[1]? = some (.str lamQual t) :=
    hcode.imp id fun ⟨c', oc, vs, t, e1, e2, e3, e4, e5⟩ => ⟨c', oc, vs, t, e1, hsub _ _ e2 e3, e4, e5⟩
  clear F
  rename News s.heap _ _ [] => Nold
  clear Nold
  repeat' walk_at "my stepW"
  refine wpAny_For ?_ (by intro _; rfl)
  repeat' walk_at "my stepW"
  rename Fr g0 _ _ _ => F1
  rename News g0 _ _ _ => N1
  rename_i la _ _ _
  refine kla_eval rfl ?_
  have hla : la ≠ 134 := fun e => by
    have h1 := (N1 _ (.head _)).1
    have h2 := (N1 _ (.tail _ (.head _))).1
    rw [show ((la, listOf #[] 0) : Addr × Obj).1 = 134 from e] at h1
    rw [show ((134, tabObj ps) : Addr × Obj).1 = 134 from rfl, h1] at h2
    cases h2
  refine lam_made (pre := [(la, listOf #[] 0)]) F1 N1 (fun p hp => by rw [List.mem_singleton.mp hp]; exact hla) T1 C0 htr hcode0 rfl fun f c' ctv h1 tk1 nx ps' F2 N2 hps' hpre htr' hco' CK hc' hage => ?_
  repeat' walk_at "my stepW"
  refine sorted_ok F2 N2 (hl0.at fun o e => F2.keep a o e) tx (by have := tx.len; omega) (fun x hx => (hws x hx).1) ?zlc (fun D out srt h3 c3 tk3 F3 N3 hD TO hperm => ?_)
  case zlc =>
    intro s' x t' Q' E' hx F N hk
    have S1 : Std w p loose mg mb s'.heap := ⟨X0.keeps F.keep, T0.keeps F.keep⟩
    have hxS : (S x).length ≤ 100 := by rw [S_len]; exact hx
    refine enterLam S1 (show d + 1 < recursionLimit from hroom1) (N _ (.head _)).1 ?zcd rfl (locs rfl) (fun h₁ F3 N3 X3 T3 => ?_) rfl rfl rfl (by decide)
    case zcd =>
      obtain ⟨oc, vs', t2, e1, e2, e3⟩ := CK.at F N (fun p hp => .tail _ hp)
      exact ⟨c', oc, vs', t2, rfl, e1, e2, e3⟩
    dsimp only [posB, bmap, List.map, List.zip, List.zipWith, List.reverse, List.reverseAux, List.length] at F3
    repeat' walk_at "my step"
    (rename News _ _ _ _ => N4); (rename Fr _ _ _ _ => F4)
    have h4 := N4 _ (.head _)
    exact hk _ _ _ _ _ (Fr.keep F4) h4.2.2 h4.1
  repeat' walk_at "my stepW"
  have hperm2 : ∀ q, takesL srt q = takesL ws q := fun q => hperm.any_eq
  have hDx : ∀ p ∈ nx, p.1 ≠ D := fun p hp => Nat.ne_of_lt (hD p (.tail _ hp))
  have hDL : D ≠ s.heap.objs.size := (N3 _ (.head _)).2.1
  have hnx3 : News g0 s.heap.objs.size h3 nx := fun p hp => N3 p (.tail _ (.tail _ hp))
  refine iter_list (nx := nx) (items := out.toArray) (fun i m nx1 => (∀ p ∈ nx, p ∈ nx1) ∧ ∃ ka kvs kept n, (ka, listOf (List.toArray kvs) n) ∈ nx1 ∧ TextsAre kvs kept ∧ m (Str.ofString "kept") = some (.ref ka) ∧ (∀ x ∈ kept, x ∈ srt) ∧ kept.length ≤ i ∧ ∀ q, takesL kept q = takesL (srt.take i) q) rfl
    ⟨_, (N3 _ (.head _)).1, rfl, c3, rfl⟩ hDL hDx F3 hnx3 ⟨fun _ h => h, la, [], [], 0, hpre _ (.head _), ⟨[], rfl, rfl⟩, rfl, (fun _ h => nomatch h), Nat.zero_le _, fun q => by simp [takesL]⟩ ?_ ?_ PassesOwn.never
  · rintro i v hv m₁ nx₁ h tk own ap ⟨hn1, ka, kvs, kept, n, hka, tkv, e1, hk1, hk2, hk3⟩ F N
    obtain ⟨x, tx', hx, rfl⟩ := TO.get (by simpa using hv)
    have hxw := hws x (hperm.mem_iff.mp (List.mem_of_getElem? hx))
    have hkl : kept.length ≤ 100 := by
      have h1 := hperm.length_eq
      have h2 : i < srt.length := (List.getElem?_eq_some_iff.mp hx).1
      omega
    replace F := reveal F e1
    have hx1000 : (S x).length ≤ 1000 := by rw [S_len]; omega
    have step2 : ∀ q, takesL (srt.take (i + 1)) q = (takesL (srt.take i) q || x.isSublist q) := fun q => by
      unfold takesL; rw [List.take_add_one, hx]; simp
    repeat' walk_at "my stepW"
    refine takes_ok (p := p) (loose := loose) (mg := mg) (mb := mb) (ws := kept) ?sk1 (show d + 1 + 1 < recursionLimit by omega) ?ta1 (fun y hy => hws y (hperm.mem_iff.mp (hk1 y hy))) hx1000 (fun h4 tk4 k4 => ?_)
    case sk1 => exact ⟨X0.keeps (Fr.keep (by assumption)), T0.keeps (Fr.keep (by assumption))⟩
    case ta1 => exact ⟨kvs, kso_isList (by assumption) (List.mem_append_left _ hka) rfl, tkv⟩
    (rename Fr g0 _ _ _ => F4; replace F4 := F4.after k4)
    (rename News g0 _ _ _ => N4; replace N4 := News.keepsAll N4 k4)
    cases htk : takesL kept x
    · repeat' walk_at "my stepW"
      (rename Fr g0 _ _ _ => F5); (rename News g0 _ _ _ => N5)
      refine kmk_add_lit F5 N5 (kso_isList N5 (.tail _ (List.mem_append_left _ hka)) rfl) (kso_isList N5 (.head _) rfl) rfl (fun D2 h6 F6 N6 hlt => ?_) (by rw [sizeLine_eq]; simp [tkv.len]; omega)
      clear F5 N5
      repeat' walk_at "my stepW"
      (rename Fr g0 _ _ _ => F7); (rename News g0 _ _ _ => N7)
      refine TEnd.mk (nx := (D2, _) :: nx₁) F7 N7 (fun p hp => ?_) (fun p hp => .tail _ (.tail _ (List.mem_append_right _ hp))) (Apart.cons (fun q hq => Nat.ne_of_gt (hlt q (.tail _ (List.mem_append_right _ hq)))) ap) ⟨fun p hp => .tail _ (hn1 p hp), D2, kvs ++ [.str (S x) tx'], kept ++ [x], 0, .head _, ?_, rfl, ?_, ?_, ?_⟩
      · rcases List.mem_cons.mp hp with rfl | hp
        · exact .head _
        · exact .tail _ (.tail _ (List.mem_append_left _ hp))
      · obtain ⟨l', rfl, rfl⟩ := tkv; exact ⟨l' ++ [(x, tx')], by simp, by simp⟩
      · intro y hy
        rcases List.mem_append.mp hy with hy | hy
        · exact hk1 y hy
        · rw [List.mem_singleton.mp hy]; exact List.mem_of_getElem? hx
      · simp; omega
      · intro q
        rw [step2, ← hk3]
        unfold takesL; rw [List.any_append]; simp
    · repeat' walk_at "my stepW"
      (rename Fr g0 _ _ _ => F7); (rename News g0 _ _ _ => N7)
      refine TEnd.mk (nx := nx₁) F7 N7 (fun p hp => List.mem_append_left _ hp) (fun p hp => List.mem_append_right _ hp) ap ⟨hn1, ka, kvs, kept, n, hka, tkv, rfl, hk1, by omega, fun q => ?_⟩
      rw [step2, ← hk3]
      cases hq : x.isSublist q
      · simp
      · rw [takes_more htk hq]; rfl
  · rintro m₁ nx₁ h tk ⟨hn1, ka, kvs, kept, n, hka, tkv, e1, hk1, hk2, hk3⟩ F N
    replace F := reveal F e1
    have hlen2 : out.toArray.size = srt.length := by simp [TO.len]
    rw [hlen2] at hk2 hk3
    repeat' walk_at "my stepW"
    have hka134 : ka ≠ 134 := fun e => by
      have h1 := (N _ hka).1
      have h2 := (N _ (hn1 _ hps')).1
      rw [show ((ka, listOf (List.toArray kvs) n) : Addr × Obj).1 = 134 from e] at h1
      rw [show ((134, tabObj ps') : Addr × Obj).1 = 134 from rfl, h1] at h2
      cases h2
    refine k _ _ kept _ (fun b o hb e => F.keep b o (hsub b o hb e)) ⟨ps', (N _ (hn1 _ hps')).1, htr', .inr ?_⟩ ?_ ?_ ⟨kvs, kso_isList (s := { s with heap := h }) N hka rfl, tkv⟩ ⟨fun x hx => hperm.mem_iff.mp (hk1 x hx), by rw [← hperm.length_eq]; exact hk2, fun q => by rw [hk3, List.take_length, hperm2]⟩
    · obtain ⟨oc, vs', t2, e1, e2, e3⟩ := CK.at F N (fun p hp => hn1 p hp)
      exact ⟨c', oc, vs', t2, hco', hc', e1, e2, e3⟩
    · rintro c2 ⟨ps2, e1, e2⟩
      have e3 := (N _ (hn1 _ hps')).1
      rw [show ((134, tabObj ps') : Addr × Obj).1 = 134 from rfl, e1] at e3
      have hh : codeAmong lamPos ps2.toList = codeAmong lamPos ps'.toList := by cases e3; rfl
      rw [hh, show codeAmong lamPos ps'.toList = some (.ref c') from hco'] at e2
      cases e2
      rcases hage with hage | hage
      · exact .inl ⟨ps, hps, hage⟩
      · refine .inr ?_
        cases hq : s.heap.get? c' with
        | none => rfl
        | some o => have := hsub _ _ hc' hq; rw [hage] at this; cases this
    · cases hq : s.heap.get? ka with
      | none => rfl
      | some o => have := hsub _ _ hka134 hq; rw [(N _ hka).2.2] at this; cases this
end
-- wants
structure Draw where
  frm : Nat
  kind : Nat
  c : Nat
  goal : Nat
def DrawAt (h : Heap) (v : Value) (dr : Draw) : Prop := ∃ T ta tk tc tg, v = .ref T ∧ h.IsTuple T #[.int (natV dr.frm) ta, .int (natV dr.kind) tk, .str (S [dr.c]) tc, .int (natV dr.goal) tg]
def WantsAt (h : Heap) (a : Addr) (W : Nat → List (List Nat)) : Prop := ∃ a0 a1 a2, h.IsList a #[.ref a0, .ref a1, .ref a2] ∧ TextsAt h a0 (W 0) ∧ TextsAt h a1 (W 1) ∧ TextsAt h a2 (W 2)
def wordsL (one two : Nat) (W : Nat → List (List Nat)) (drs : List Draw) (place : Nat) : List (List Nat) :=
  W place ++ (drs.filter fun dr => dr.frm == place).flatMap fun dr => (W dr.goal).map (backL one two dr.kind dr.c)
/-- an entry is set anew -/
def upd (nx : List (Addr × Obj)) (c : Addr) (o : Obj) : List (Addr × Obj) := (c, o) :: nx.filter fun p => decide (p.1 ≠ c)
theorem upd_self {nx : List (Addr × Obj)} {c : Addr} {o : Obj} : (c, o) ∈ upd nx c o := .head _
theorem upd_mem {nx : List (Addr × Obj)} {c : Addr} {o : Obj} {q : Addr × Obj} (h : q ∈ nx) (hc : q.1 ≠ c) : q ∈ upd nx c o := .tail _ (List.mem_filter.mpr ⟨h, by simpa using hc⟩)
def offL (own l : List (Addr × Obj)) : List (Addr × Obj) := l.filter fun p => decide (∀ q ∈ own, p.1 ≠ q.1)
theorem offL_mem {own l : List (Addr × Obj)} {q : Addr × Obj} (h : q ∈ l) (ho : ∀ r ∈ own, q.1 ≠ r.1) : q ∈ offL own l := List.mem_filter.mpr ⟨h, by simpa using ho⟩
theorem offL_apart {own l : List (Addr × Obj)} : Apart (offL own l) own := fun p hp q hq => by
  have := (List.mem_filter.mp hp).2
  exact (of_decide_eq_true this) q hq
theorem offL_sub {own l : List (Addr × Obj)} : ∀ p ∈ offL own l, p ∈ l := fun _ hp => (List.mem_filter.mp hp).1
theorem upd_of {nx : List (Addr × Obj)} {c : Addr} {o : Obj} {q : Addr × Obj} (h : q ∈ upd nx c o) (hc : q.1 ≠ c) : q ∈ nx := by
  rcases List.mem_cons.mp h with rfl | h
  · exact absurd rfl hc
  · exact (List.mem_filter.mp h).1
section
variable {M : Model} {A : Around} {E : Value → Shared → Prop} {s : Shared} {g h h' : Heap} {L c : Addr} {m : Str → Option Value} {nx : List (Addr × Obj)} {o o' : Obj}
theorem news_upd (N : News g L h nx) (hm : (c, o) ∈ nx) (hs : Heap.SameBut c h h') (ho : h'.get? c = some o') : News g L h' (upd nx c o') := fun p hp => by
  rcases List.mem_cons.mp hp with rfl | hp
  · exact ⟨ho, (N _ hm).2⟩
  · obtain ⟨hp, hc⟩ := List.mem_filter.mp hp
    exact ⟨(hs.2 _ (by simpa using hc)).trans (N p hp).1, (N p hp).2⟩
theorem storeC {env : Env} {x : Str} {v : Value} {v₀ : Option Value} {Q : Unit → Shared → Prop} (F : Fr g L s.heap m) (N : News g L s.heap nx) (hc : env.cells.lookup x = some c) (hm : (c, o) ∈ nx) (hd : o.data = .cell v₀)
    (h : ∀ h' o' nx', o'.data = .cell (some v) → Fr g L h' m → News g L h' nx' → (c, o') ∈ nx' → (∀ p ∈ nx, p.1 ≠ c → p ∈ nx') → Q () { s with heap := h' }) (hk : env.scope.kind = .function := by rfl) (hx : env.kindOf x = some .cell := by rfl) :
    wpAny M A (storeName env x v) Q E s := by
  refine wpAny_storeName_cell hk hx hc ⟨o, (N _ hm).1, hd⟩ fun h' hv hs => ?_
  obtain ⟨o', ho', hd'⟩ := hv
  refine h h' o' _ hd' ⟨F.ns.sameBut hs (Ne.symm (N _ hm).2.1), fun b ob e => (hs.2 b (fun q => ?_)).trans (F.keep b ob e), F.above⟩ (news_upd N hm hs ho') upd_self fun p hp hc => upd_mem hp hc
  have := (N _ hm).2.2
  rw [q] at e; rw [show (c, o).1 = c from rfl, e] at this; cases this
theorem news_ne {a b : Addr} {oa ob : Obj} (N : News g L h nx) (h1 : (a, oa) ∈ nx) (h2 : (b, ob) ∈ nx) (hne : oa.data ≠ ob.data) : a ≠ b := fun e => by
  have e1 := (N _ h1).1
  have e2 := (N _ h2).1
  subst e
  rw [show ((a, ob) : Addr × Obj).1 = a from rfl, e1] at e2
  exact hne (congrArg Obj.data (Option.some.inj e2))
/-- the table of the lambda's codes, in the ledger -/
def TabIn (g : Heap) (nx : List (Addr × Obj)) : Prop := ∃ ps, (134, tabObj ps) ∈ nx ∧ TriplesOk ps.toList ∧ (codeAmong lamPos ps.toList = none ∨ ∃ c', codeAmong lamPos ps.toList = some (.ref c') ∧ c' ≠ 134 ∧ CodeKept g nx c' lamQual)
theorem TabIn.ok (T : TabIn g nx) (F : Fr g L h m) (N : News g L h nx) : TabOk h := by
  obtain ⟨ps, hp, ht, hc⟩ := T
  refine ⟨ps, (N _ hp).1, ht, hc.imp id fun ⟨c', e1, e2, C⟩ => ?_⟩
  obtain ⟨oc, vs, t, e3, e4, e5⟩ := C.at F N fun _ h => h
  exact ⟨c', oc, vs, t, e1, e2, e3, e4, e5⟩
theorem TabIn.more {nx' : List (Addr × Obj)} (T : TabIn g nx) (hs : ∀ p ∈ nx, (∀ v, p.2.data ≠ .cell v) → p ∈ nx') : TabIn g nx' := by
  obtain ⟨ps, hp, ht, hc⟩ := T
  refine ⟨ps, hs _ hp (fun v e => by cases e), ht, hc.imp id fun ⟨c', e1, e2, oc, vs, t, e3, e4, e5⟩ => ⟨c', e1, e2, oc, vs, t, e3.imp id fun e => hs _ e fun v q => ?_, e4, e5⟩⟩
  rw [show (c', oc).2 = oc from rfl, e4] at q; cases q
/-- behind a call that turns the table -/
theorem after_tab {nxT : List (Addr × Obj)} (F : Fr g L h m) (N : News g L h nx) (k : Keep1 h h') (TO : TabOk h') (hg : g.get? 134 = none) (hL : L ≠ 134) (T : TabIn g nxT) (hTs : ∀ p ∈ nxT, (∀ v, p.2.data ≠ .cell v) → p ∈ nx)
    (hage : ∀ c', TabC h' c' → TabC h c' ∨ h.get? c' = none) :
    Fr g L h' m ∧ ∃ nx' nxT', News g L h' nx' ∧ (∀ p ∈ nx, p.1 ≠ 134 → p ∈ nx') ∧ TabIn g nxT' ∧ (∀ p ∈ nxT', p ∈ nx') ∧ ∀ p ∈ nxT', p ∈ nxT ∨ p.1 = 134 ∨ h.get? p.1 = none := by
  have hg' : ∀ b o, g.get? b = some o → b ≠ 134 := fun b o e q => by rw [q, hg] at e; cases e
  have F' : Fr g L h' m := by
    obtain ⟨o, es, ep, ho, hd, hk, hf⟩ := F.ns
    exact ⟨⟨o, es, ep, k _ _ hL ho, hd, hk, hf⟩, fun b o e => k b o (hg' b o e) (F.keep b o e), F.above⟩
  obtain ⟨ps, hps, ht, hc⟩ := TO
  have base : News g L h' ((134, tabObj ps) :: nx.filter fun p => decide (p.1 ≠ 134)) := fun p hp => by
    rcases List.mem_cons.mp hp with rfl | hp
    · exact ⟨hps, Ne.symm hL, hg⟩
    · obtain ⟨hp, hc⟩ := List.mem_filter.mp hp
      exact ⟨k _ _ (by simpa using hc) (N p hp).1, (N p hp).2⟩
  have sub : ∀ p ∈ nx, p.1 ≠ 134 → p ∈ nx.filter fun p => decide (p.1 ≠ 134) := fun p hp hc => List.mem_filter.mpr ⟨hp, by simpa using hc⟩
  refine ⟨F', ?_⟩
  rcases hc with hc | ⟨c', oc, vs, t, e1, e2, e3, e4, e5⟩
  · exact ⟨_, [(134, tabObj ps)], base, fun p hp hc => .tail _ (sub p hp hc), ⟨ps, .head _, ht, .inl hc⟩, fun p hp => by rw [List.mem_singleton.mp hp]; exact .head _, fun p hp => by rw [List.mem_singleton.mp hp]; exact .inr (.inl rfl)⟩
  · rcases hage c' ⟨ps, hps, e1⟩ with ⟨ps0, a1, a2⟩ | hnew
    · obtain ⟨ps1, b1, b2, b3⟩ := T
      have b4 := (N _ (hTs _ b1 fun v e => by cases e)).1
      rw [show ((134, tabObj ps1) : Addr × Obj).1 = 134 from rfl, a1] at b4
      cases b4
      rcases b3 with b3 | ⟨c2, b3, b5, oc2, vs2, t2, b6, b7, b8⟩
      · rw [a2] at b3; cases b3
      · rw [a2] at b3; cases b3
        rcases b6 with b6 | b6
        · exact ⟨_, [(134, tabObj ps)], base, fun p hp hc => .tail _ (sub p hp hc), ⟨ps, .head _, ht, .inr ⟨c', e1, e2, oc2, vs2, t2, .inl b6, b7, b8⟩⟩, fun p hp => by rw [List.mem_singleton.mp hp]; exact .head _, fun p hp => by rw [List.mem_singleton.mp hp]; exact .inr (.inl rfl)⟩
        · refine ⟨_, [(134, tabObj ps), (c', oc2)], base, fun p hp hc => .tail _ (sub p hp hc), ⟨ps, .head _, ht, .inr ⟨c', e1, e2, oc2, vs2, t2, .inr (.tail _ (.head _)), b7, b8⟩⟩, fun p hp => ?_, fun p hp => ?_⟩
          · rcases List.mem_cons.mp hp with rfl | hp
            · exact .head _
            · rw [List.mem_singleton.mp hp]
              exact .tail _ (sub _ (hTs _ b6 fun v q => by rw [show (c', oc2).2 = oc2 from rfl, b7] at q; cases q) b5)
          · rcases List.mem_cons.mp hp with rfl | hp
            · exact .inr (.inl rfl)
            · rw [List.mem_singleton.mp hp]; exact .inl b6
    · have hgn : g.get? c' = none := by
        cases hq : g.get? c' with
        | none => rfl
        | some o => have := F.keep _ _ hq; rw [hnew] at this; cases this
      refine ⟨(c', oc) :: ((134, tabObj ps) :: nx.filter fun p => decide (p.1 ≠ 134)), [(134, tabObj ps), (c', oc)], fun p hp => ?_, fun p hp hc => .tail _ (.tail _ (sub p hp hc)), ⟨ps, .head _, ht, .inr ⟨c', e1, e2, oc, vs, t, .inr (.tail _ (.head _)), e4, e5⟩⟩, fun p hp => ?_, fun p hp => ?_⟩
      · rcases List.mem_cons.mp hp with rfl | hp
        · refine ⟨e3, fun e => ?_, hgn⟩
          obtain ⟨o, es, ep, ho, hd, _⟩ := F'.ns
          rw [show (c', oc).1 = c' from rfl] at e
          rw [← e, e3] at ho; cases ho; rw [e4] at hd; cases hd
        · exact base p hp
      · rcases List.mem_cons.mp hp with rfl | hp
        · exact .tail _ (.head _)
        · rw [List.mem_singleton.mp hp]; exact .head _
      · rcases List.mem_cons.mp hp with rfl | hp
        · exact .inr (.inl rfl)
        · rw [List.mem_singleton.mp hp]; exact .inr (.inr hnew)
/-- a list of texts, in the ground or in the ledger -/
def TextsIn (g : Heap) (nx : List (Addr × Obj)) (a : Addr) (ws : List (List Nat)) : Prop := ∃ vs, TextsAre vs ws ∧ (g.IsList a vs.toArray ∨ ∃ o n, (a, o) ∈ nx ∧ o.cls = .type "list" ∧ o.data = .seq vs.toArray n)
theorem TextsIn.list {ws : List (List Nat)} {a : Addr} {nx' : List (Addr × Obj)} (T : TextsIn g nx a ws) (F : Fr g L h m) (N : News g L h nx') (hs : ∀ p ∈ nx, (∃ xs n, p.2.data = .seq xs n) → p ∈ nx') : TextsAt h a ws := by
  obtain ⟨vs, tx, hh⟩ := T
  refine ⟨vs, ?_, tx⟩
  rcases hh with hh | ⟨o, n, hh, hc, hd⟩
  · exact hh.at fun o e => F.keep a o e
  · exact ⟨_, (N _ (hs _ hh ⟨_, _, hd⟩)).1, hc, n, hd⟩
theorem TextsIn.more {ws : List (List Nat)} {a : Addr} {nx' : List (Addr × Obj)} (T : TextsIn g nx a ws) (hs : ∀ p ∈ nx, (∃ xs n, p.2.data = .seq xs n) → p ∈ nx') : TextsIn g nx' a ws := by
  obtain ⟨vs, tx, hh⟩ := T
  exact ⟨vs, tx, hh.imp id fun ⟨o, n, hh, hc, hd⟩ => ⟨o, n, hs _ hh ⟨_, _, hd⟩, hc, hd⟩⟩
end
/-- the lists made so far -/
def FreshIn (g : Heap) (nx : List (Addr × Obj)) (fa : Addr) (W' : Nat → List (List Nat)) (i : Nat) : Prop := ∃ fvs n, (fa, listOf (List.toArray fvs) n) ∈ nx ∧ fvs.length = i ∧ ∀ j, j < i → ∃ b, fvs[j]? = some (.ref b) ∧ TextsIn g nx b (W' j)
theorem FreshIn.more {g : Heap} {nx nx' : List (Addr × Obj)} {fa : Addr} {W' : Nat → List (List Nat)} {i : Nat} (T : FreshIn g nx fa W' i) (hs : ∀ p ∈ nx, (∃ xs n, p.2.data = .seq xs n) → p ∈ nx') : FreshIn g nx' fa W' i := by
  obtain ⟨fvs, n, h1, h2, h3⟩ := T
  exact ⟨fvs, n, hs _ h1 ⟨_, _, rfl⟩, h2, fun j hj => let ⟨b, e, T⟩ := h3 j hj; ⟨b, e, T.more hs⟩⟩
def wordsK (one two : Nat) (W : Nat → List (List Nat)) (drs : List Draw) (place k : Nat) : List (List Nat) :=
  W place ++ ((drs.take k).filter fun dr => dr.frm == place).flatMap fun dr => (W dr.goal).map (backL one two dr.kind dr.c)
theorem wordsK_len (one two : Nat) (W : Nat → List (List Nat)) (drs : List Draw) (place k : Nat) : (wordsK one two W drs place k).length ≤ (wordsL one two W drs place).length := by
  unfold wordsK wordsL
  have e : drs.filter (fun dr => dr.frm == place) = (drs.take k).filter (fun dr => dr.frm == place) ++ (drs.drop k).filter (fun dr => dr.frm == place) := by rw [← List.filter_append, List.take_append_drop]
  rw [e, List.flatMap_append, List.length_append, List.length_append, List.length_append]
  omega
theorem wordsK_eq {one two : Nat} {W : Nat → List (List Nat)} {drs : List Draw} {place k : Nat} {dr : Draw} (h : drs[k]? = some dr) : wordsK one two W drs place (k + 1) = wordsK one two W drs place k ++ if dr.frm = place then (W dr.goal).map (backL one two dr.kind dr.c) else [] := by
  unfold wordsK
  rw [List.take_add_one, h, Option.toList_some, List.filter_append, List.flatMap_append, List.append_assoc]
  congr 1
  by_cases hp : dr.frm = place
  · simp [hp]
  · have : (dr.frm == place) = false := by simpa using hp
    simp [hp]
theorem same_list {vs ws : List Value} (hl : vs.length = ws.length) (hP : ∀ (j : Nat) (v : Value), vs[j]? = some v → ws[j]? = some v) : vs = ws := by
  apply List.ext_getElem?
  intro j
  cases hv : vs[j]? with
  | some v => exact (hP j v hv).symm
  | none => exact (List.getElem?_eq_none (by have := List.getElem?_eq_none_iff.mp hv; omega)).symm
theorem TextsAre.app {vs us : List Value} {ws xs : List (List Nat)} (T : TextsAre vs ws) (U : TextsAre us xs) : TextsAre (vs ++ us) (ws ++ xs) := by
  obtain ⟨l, rfl, rfl⟩ := T
  obtain ⟨l', rfl, rfl⟩ := U
  exact ⟨l ++ l', by simp, by simp⟩
theorem backs_all {one two kind c : Nat} : ∀ {ys vs : List Value} {ws : List (List Nat)}, TextsAre vs ws → Paired (fun v y : Value => ∃ x tv ty, v = .str (S x) tv ∧ y = .str (S (backL one two kind c x)) ty) vs ys → TextsAre ys (ws.map (backL one two kind c)) := by
  rintro ys vs ws ⟨l, rfl, rfl⟩ P
  induction l generalizing ys with
  | nil => cases P; exact ⟨[], rfl, rfl⟩
  | cons q r ih =>
    cases P with
    | cons h P =>
      obtain ⟨x, tv, ty, e1, rfl⟩ := h
      obtain ⟨l', rfl, e⟩ := ih P
      have hx : q.1 = x := by
        have : S q.1 = S x := by cases e1; rfl
        simpa [S] using this
      subst hx
      exact ⟨(backL one two kind c q.1, ty) :: l', rfl, by simp only [List.map_cons, e]⟩
section
variable {w : World} {p : Program} {loose : List Str} {mg mb : Str → Option Value} {mean : ExcName → Option Value} {base : Heap} {gs : Option (List Code)} {d u : Nat} {fr : Option (List Env)} {E : Value → Shared → Prop} {s : Shared} {Q : Value → Shared → Prop}
theorem three_list {fvs : List Value} {b0 b1 b2 : Addr} (h : fvs.length = 3) (q0 : fvs[0]? = some (.ref b0)) (q1 : fvs[1]? = some (.ref b1)) (q2 : fvs[2]? = some (.ref b2)) : fvs = [.ref b0, .ref b1, .ref b2] := by
  rcases fvs with _ | ⟨x, _ | ⟨y, _ | ⟨z, _ | ⟨u, r⟩⟩⟩⟩
  · exact absurd q0 (by simp)
  · exact absurd q1 (by simp)
  · exact absurd q2 (by simp)
  · simp at q0 q1 q2
    rw [q0, q1, q2]
  · simp at h
def WantsJ (g0 : Heap) (L one two : Nat) (t1 : Tok) (W : Nat → List (List Nat)) (drs : List Draw) (da wa : Addr) (i : Nat) : Inv := fun m nx => ∃ os ok ol sv kv fa W', (L + 1 + 1 + 1, os) ∈ nx ∧ os.data = .cell sv ∧ (L + 1 + 1, ok) ∈ nx ∧ ok.data = .cell kv ∧ (L + 1, ol) ∈ nx ∧ ol.data = .cell (some (.str (S [one, two]) t1)) ∧ TabIn g0 nx ∧ FreshIn g0 nx fa W' i ∧ (∀ j, j < i → LeastOf (wordsL one two W drs j) (W' j)) ∧ m (Str.ofString "drawn") = some (.ref da) ∧ m (Str.ofString "wants") = some (.ref wa) ∧ m (Str.ofString "fresh") = some (.ref fa)
def WordsJ (g0 : Heap) (L one two : Nat) (W : Nat → List (List Nat)) (drs : List Draw) (da wa fa : Addr) (i : Nat) (ti : Tok) (K : List (Addr × Obj)) (i2 : Nat) : Inv := fun m nx2 => (∀ q ∈ K, q.1 ≠ L + 1 + 1 → q.1 ≠ L + 1 + 1 + 1 → q ∈ nx2) ∧ (∃ ok kv, (L + 1 + 1, ok) ∈ nx2 ∧ ok.data = .cell kv) ∧ (∃ os sv, (L + 1 + 1 + 1, os) ∈ nx2 ∧ os.data = .cell sv) ∧ ∃ ua, TextsIn g0 nx2 ua (wordsK one two W drs i i2) ∧ m (Str.ofString "drawn") = some (.ref da) ∧ m (Str.ofString "wants") = some (.ref wa) ∧ m (Str.ofString "fresh") = some (.ref fa) ∧ m (Str.ofString "place") = some (.int (i : Nat) ti) ∧ m (Str.ofString "words") = some (.ref ua)
theorem wants_ok {one two : Nat} {da wa : Addr} {t1 : Tok} {dvs : List Value} {drs : List Draw} {W : Nat → List (List Nat)} (LB : LamBase w p loose mean mg mb base) (st : base.StaysIn s.heap) (TO : TabOk s.heap) (hroom : d + 3 < recursionLimit)
    (h12 : one ≠ two) (hdr : ∀ dr ∈ drs, dr.kind < 8 ∧ dr.goal < 3) (hW : ∀ i, i < 3 → ∀ x ∈ W i, x.length ≤ 100 ∧ ∀ c ∈ x, c = one ∨ c = two) (hsz : ∀ i, i < 3 → (wordsL one two W drs i).length < 64) (hwd : ∀ i, i < 3 → ∀ x ∈ wordsL one two W drs i, x.length ≤ 100 ∧ ∀ c ∈ x, c ≠ 46)
    (hdl : s.heap.IsList da dvs.toArray) (hdp : Paired (DrawAt s.heap) dvs drs) (hw : WantsAt s.heap wa W)
    (k : ∀ h' b W' tk, Keep1 s.heap h' → TabOk h' → WantsAt h' b W' → (∀ i, i < 3 → LeastOf (wordsL one two W drs i) (W' i)) → Q (.ref b) { s with heap := h', toks := tk }) :
    wpAny (model prog w) (Ar d fr gs u) (call (.ref 144) [.ref da, .str (S [one, two]) t1, .ref wa] []) Q E s := by
  have hroom' : d < recursionLimit := by omega
  have S0 : Std w p loose mg mb s.heap := ⟨LB.X.keeps st, topRead_of (LB.T.keeps st)⟩
  obtain ⟨ps, hps, htr, hcode⟩ := TO
  walk_at "my enterC"
  obtain ⟨g0, H⟩ := hid_is [134] s.heap
  rename Fr _ _ _ _ => F
  rename News _ _ _ _ => N
  rename_i oS oK oL hdS hdK hdL
  have F0 := hid_fr H F
  have h134 : 134 < s.heap.objs.size := Heap.lt_size hps
  have hL134 : s.heap.objs.size ≠ 134 := Nat.ne_of_gt h134
  have N0 : News g0 s.heap.objs.size _ [(s.heap.objs.size + 1 + 1 + 1, oS), (s.heap.objs.size + 1 + 1, oK), (s.heap.objs.size + 1, oL), (134, tabObj ps)] := fun q hq => by
    rcases List.mem_append.mp (show q ∈ [(s.heap.objs.size + 1 + 1 + 1, oS), (s.heap.objs.size + 1 + 1, oK), (s.heap.objs.size + 1, oL)] ++ [(134, tabObj ps)] from hq) with hq | hq
    · refine ⟨(N q hq).1, (N q hq).2.1, ?_⟩
      cases hh : g0.get? q.1 with
      | none => rfl
      | some o => have := H.of _ _ hh; rw [(N q hq).2.2] at this; cases this
    · rw [List.mem_singleton.mp hq]
      exact ⟨F.keep _ _ hps, Nat.ne_of_lt (Heap.lt_size hps), H.none_ _ (.head _)⟩
  have st0 : base.StaysIn g0 := fun b o e => H.get b o (st b o e) fun hb => by rw [List.mem_singleton.mp hb, LB.no] at e; cases e
  have X0 := LB.X.keeps st0
  have T1 := LB.T.keeps st0
  have T0 := topRead_of T1
  have hg134 : g0.get? 134 = none := H.none_ _ (.head _)
  have hsub : ∀ b o, b ≠ 134 → s.heap.get? b = some o → g0.get? b = some o := fun b o hb e => H.get b o e fun hm => hb (List.mem_singleton.mp hm)
  have notab : ∀ a (o : Obj), s.heap.get? a = some o → (∀ vs, o.data ≠ .fields vs) → a ≠ 134 := fun a o e hd q => by rw [q, hps] at e; cases e; exact hd _ rfl
  have lst0 : ∀ a xs, s.heap.IsList a xs → g0.IsList a xs := fun a xs hl => by
    obtain ⟨o, ho, hc, n, hd'⟩ := hl
    exact ⟨o, hsub _ _ (notab a o ho fun vs e => by rw [hd'] at e; cases e) ho, hc, n, hd'⟩
  have hdl0 := lst0 _ _ hdl
  have hdp0 : Paired (DrawAt g0) dvs drs := hdp.mono fun v dr q => by
    obtain ⟨T, ta, tk, tc, tg, e, o, ho, hc, n, hd'⟩ := q
    exact ⟨T, ta, tk, tc, tg, e, o, hsub _ _ (notab T o ho fun vs e => by rw [hd'] at e; cases e) ho, hc, n, hd'⟩
  obtain ⟨w0, w1, w2, hwl, hw0, hw1, hw2⟩ := hw
  have hwl0 := lst0 _ _ hwl
  have hwi : ∀ i, i < 3 → ∃ wi, (List.toArray [Value.ref w0, .ref w1, .ref w2])[i]? = some (.ref wi) ∧ ∃ vs, TextsAre vs (W i) ∧ g0.IsList wi vs.toArray := fun i hi => by
    have : i = 0 ∨ i = 1 ∨ i = 2 := lt3 (by omega)
    rcases this with rfl | rfl | rfl
    · obtain ⟨vs, hl, tx⟩ := hw0; exact ⟨w0, rfl, vs, tx, lst0 _ _ hl⟩
    · obtain ⟨vs, hl, tx⟩ := hw1; exact ⟨w1, rfl, vs, tx, lst0 _ _ hl⟩
    · obtain ⟨vs, hl, tx⟩ := hw2; exact ⟨w2, rfl, vs, tx, lst0 _ _ hl⟩
  have hT0 : TabIn g0 [(s.heap.objs.size + 1 + 1 + 1, oS), (s.heap.objs.size + 1 + 1, oK), (s.heap.objs.size + 1, oL), (134, tabObj ps)] := ⟨ps, .tail _ (.tail _ (.tail _ (.head _))), htr, hcode.imp id fun ⟨c', oc, vs, t, e1, e2, e3, e4, e5⟩ => ⟨c', e1, e2, oc, vs, t, .inl (hsub _ _ e2 e3), e4, e5⟩⟩
  clear F N
  repeat' walk_at "my stepW"
  refine wpAny_For ?_ (by intro _; rfl)
  repeat' walk_at "my stepW"
  rename Fr g0 _ _ _ => F1
  rename News g0 _ _ _ => N1
  refine iter_range (WantsJ g0 s.heap.objs.size one two t1 W drs da wa) rfl (by assumption) (by omega) (by omega) F1 N1
    ⟨oS, oK, oL, _, _, _, fun _ => [], .tail _ (.head _), hdS, .tail _ (.tail _ (.head _)), hdK, .tail _ (.tail _ (.tail _ (.head _))), hdL, hT0.more (fun p hp _ => .tail _ hp), ⟨[], 0, .head _, rfl, fun j hj => absurd hj (Nat.not_lt_zero _)⟩, fun j hj => absurd hj (Nat.not_lt_zero _), rfl, rfl, rfl⟩ ?_ ?_ PassesOwn.never (fun I => goes_name)
  · rintro i ti hi m₁ nx₁ h tk own ap ⟨os, ok, ol, sv, kv, fa, W', hos, hosd, hok, hokd, hol, hold, hTab, hFr, hLe, e1, e2, e3⟩ F N
    have hi3 : i < 3 := by omega
    replace F := reveal3 F e1 e2 e3
    repeat' walk_at "my stepW"
    obtain ⟨wi, hwi1, wvs, wtx, hwil⟩ := hwi i hi3
    refine item_listL (x := .ref wi) (l := [Value.ref w0, .ref w1, .ref w2]) (hwl0.at fun o e => Fr.keep (by assumption) wa o e) (by omega) (by omega) (by simpa using hwi1) ?_
    repeat' walk_at "my stepW"
    refine wpAny_For ?_ (by intro _; rfl)
    repeat' walk_at "my stepW"
    rename Fr g0 _ _ _ => F2
    rename News g0 _ _ _ => N2
    have hoff : ∀ {a : Addr} {o : Obj}, (a, o) ∈ nx₁ → ∀ q ∈ own, q.1 ≠ a := fun h q hq e => ap _ h q hq e.symm
    have hmine : ∀ q ∈ nx₁ ++ own, (∃ xs n, q.2.data = .seq xs n) → q.1 ≠ s.heap.objs.size + 1 + 1 ∧ q.1 ≠ s.heap.objs.size + 1 + 1 + 1 ∧ q.1 ≠ 134 := fun q hq ⟨xs, n, hd⟩ => by
      obtain ⟨ps1, hp1, _⟩ := hTab
      refine ⟨news_ne N2 (show (q.1, q.2) ∈ _ from hq) (List.mem_append_left _ hok) (by rw [hd, hokd]; exact fun e => by cases e), news_ne N2 (show (q.1, q.2) ∈ _ from hq) (List.mem_append_left _ hos) (by rw [hd, hosd]; exact fun e => by cases e), news_ne N2 (show (q.1, q.2) ∈ _ from hq) (List.mem_append_left _ hp1) (by rw [hd]; exact fun e => by cases e)⟩
    refine iter_list (nx := nx₁ ++ own) (items := dvs.toArray) (WordsJ g0 s.heap.objs.size one two W drs da wa fa i ti (nx₁ ++ own)) rfl
      (hdl0.at fun o e => F2.keep da o e) (list_ne_frame hdl) (fun q hq e => by have h1 := (N2 q hq).2.2; obtain ⟨o, ho, _⟩ := hdl0; rw [e, ho] at h1; cases h1) F2 N2
      ⟨fun q hq _ _ => hq, ⟨ok, kv, List.mem_append_left _ hok, hokd⟩, ⟨os, sv, List.mem_append_left _ hos, hosd⟩, wi, ⟨wvs, by unfold wordsK; simpa using wtx, .inl hwil⟩, rfl, rfl, rfl, rfl, rfl⟩ ?_ ?_ PassesOwn.never
    · rintro i2 v2 hv2 m₂ nx₂ h2 tk2 own2 ap2 ⟨hin, ⟨ok2, kv2, hok2, hokd2⟩, ⟨os2, sv2, hos2, hosd2⟩, ua, hua, d1, d2, d3, d4, d5⟩ F N
      obtain ⟨dr, hdr2, T, ta, tk', tc, tg, rfl, hT⟩ := paired_get hdp0 (by simpa using hv2)
      have hT1 := hT.at fun o e => F.keep T o e
      have hdrm := List.mem_of_getElem? hdr2
      obtain ⟨hkind8, hgoal3⟩ := hdr dr hdrm
      have N' := N
      replace F := reveal5 F d1 d2 d3 d4 d5
      repeat' walk_at "my stepW"
      rename Fr g0 _ _ _ => F3
      rename News g0 _ _ _ => N3
      refine storeC F3 N3 rfl (List.mem_append_left _ hok2) hokd2 (fun h4 ok4 nx4 hokd4 F4 N4 hok4 sub4 => ?_)
      clear F3 N3
      repeat' walk_at "my stepW"
      have hne12 : s.heap.objs.size + 1 + 1 + 1 ≠ s.heap.objs.size + 1 + 1 := Nat.succ_ne_self _
      refine storeC F4 N4 rfl (sub4 _ (List.mem_append_left _ hos2) hne12) hosd2 (fun h5 os5 nx5 hosd5 F5 N5 hos5 sub5 => ?_)
      clear F4 N4
      repeat' walk_at "my stepW"
      all_goals have hne21 : s.heap.objs.size + 1 + 1 ≠ s.heap.objs.size + 1 + 1 + 1 := Ne.symm hne12
      all_goals have hokm := sub5 _ hok4 hne21
      all_goals have hsub5 : ∀ q ∈ nx₂ ++ own2, q.1 ≠ s.heap.objs.size + 1 + 1 → q.1 ≠ s.heap.objs.size + 1 + 1 + 1 → q ∈ nx5 := fun q hq a b => sub5 _ (sub4 _ hq a) b
      all_goals have hown2 : ∀ q ∈ own2, q ∈ nx5 := fun q hq => hsub5 q (List.mem_append_right _ hq) (fun e => ap2 _ hok2 q hq e.symm) (fun e => ap2 _ hos2 q hq e.symm)
      all_goals have hin5 : ∀ q ∈ nx₁ ++ own, q.1 ≠ s.heap.objs.size + 1 + 1 → q.1 ≠ s.heap.objs.size + 1 + 1 + 1 → q ∈ offL own2 nx5 := fun q hq a b => offL_mem (hsub5 q (List.mem_append_left _ (hin q hq a b)) a b) fun r hr => ap2 _ (hin q hq a b) r hr
      all_goals have hseq5 : ∀ q ∈ nx₂, (∃ xs n, q.2.data = .seq xs n) → q ∈ offL own2 nx5 := fun q hq ⟨xs, n, hd⟩ => offL_mem (hsub5 q (List.mem_append_left _ hq) (news_ne N' (show (q.1, q.2) ∈ _ from List.mem_append_left _ hq) (List.mem_append_left _ hok2) (by rw [hd, hokd2]; exact fun e => by cases e)) (news_ne N' (show (q.1, q.2) ∈ _ from List.mem_append_left _ hq) (List.mem_append_left _ hos2) (by rw [hd, hosd2]; exact fun e => by cases e))) fun r hr => ap2 _ hq r hr
      all_goals have hok9 : (s.heap.objs.size + 1 + 1, ok4) ∈ offL own2 nx5 := offL_mem hokm fun r hr => ap2 _ hok2 r hr
      all_goals have hos9 : (s.heap.objs.size + 1 + 1 + 1, os5) ∈ offL own2 nx5 := offL_mem hos5 fun r hr => ap2 _ hos2 r hr
      · -- the step goes from this place
        have hfrm : dr.frm = i := by
          have h9 : natV dr.frm = (i : Int) := by assumption
          simp only [natV] at h9; omega
        obtain ⟨wj, hwj1, wvj, wtj, hwjl⟩ := hwi dr.goal hgoal3
        refine wpAny_ListComp_free (fun _ => true) (fun v y => ∃ x tv ty, v = .str (S x) tv ∧ y = .str (S (backL one two dr.kind dr.c x)) ty) rfl (by decide) rfl (by decide) rfl ?_ (by intro _; rfl)
        repeat' walk_at "my stepW"
        refine item_listL (x := .ref wj) (l := [Value.ref w0, .ref w1, .ref w2]) (hwl0.at fun o e => Fr.keep (by assumption) wa o e) (by simp only [natV]; omega) (by simp only [natV]; omega) (by simpa [natV] using hwj1) ?_
        repeat' walk_at "my stepW"
        rename Fr g0 _ _ _ => F6
        rename News g0 _ _ _ => N6
        have hwj2 := hwjl.at fun o e => F6.keep wj o e
        have idX := hwj2
        obtain ⟨owj, howj, _⟩ := idX
        refine wpAny_pyIter_list hwj2 ⟨_, _, _, _, _, _, rfl, Walks.list rfl _ wj (Nat.ne_of_lt (Heap.lt_size howj)) _, ?cs, ⟨⟨_, Heap.get?_push_size _ rfl, rfl, rfl⟩, hwj2.at fun o e => Heap.get?_push_of_some _ e⟩, ?cf, ⟨?ct, ?ce⟩, ?cd⟩
        case cs => rw [List.size_toArray, sizeLine_eq]; have h8 := wtj.len; have h9 := wordsK_len one two W drs i (i2 + 1); rw [wordsK_eq hdr2, if_pos hfrm, List.length_append, List.length_map] at h9; have := hsz i hi3; omega
        case cf =>
          intro b hb
          rw [Heap.size_push]
          rcases List.mem_cons.mp hb with rfl | hb
          · exact Nat.lt_succ_self _
          · rw [List.mem_singleton.mp hb]; exact Nat.lt_succ_of_lt (Heap.lt_size howj)
        case ct =>
          intro C i v s₃ m₃ E' hC hP hn hm hk htk
          exact wpAny_pure ⟨rfl, ⟨s₃.heap, s₃.toks, rfl, fun _ _ e => e⟩⟩
        case ce =>
          rintro C i3 v s₃ m₃ E' hC hP _ hn hm hk htk
          obtain ⟨x, tx, hx, rfl⟩ := wtj.get (by simpa using hP)
          have hxm := hW dr.goal hgoal3 x (List.mem_of_getElem? hx)
          have kp := fun b o e => hk b o (fun hm2 => absurd (List.mem_singleton.mp hm2) (Nat.ne_of_lt (Heap.lt_size e))) (Heap.get?_push_of_some _ e)
          have hab : g0.objs.size ≤ C := Nat.le_trans F6.above (Nat.le_trans (Nat.le_of_lt F6.ns.lt) (Nat.le_trans (Nat.le_succ _) (Nat.le_trans (Nat.le_of_eq (Heap.size_push ..).symm) hC)))
          have F3 : Fr g0 C s₃.heap m₃ := ⟨hn, fun b o e => kp b o (F6.keep b o e), hab⟩
          have hc1 : s₃.heap.IsCell (s.heap.objs.size + 1 + 1) (some (.int (natV dr.kind) tk')) := ⟨_, kp _ _ (N6 _ hokm).1, hokd4⟩
          have hc2 : s₃.heap.IsCell (s.heap.objs.size + 1 + 1 + 1) (some (.str (S [dr.c]) tc)) := ⟨_, kp _ _ (N6 _ hos5).1, hosd5⟩
          have hc3 : s₃.heap.IsCell (s.heap.objs.size + 1) (some (.str (S [one, two]) t1)) := ⟨_, kp _ _ (N6 _ (offL_sub _ (hin5 _ (List.mem_append_left _ hol) (Nat.ne_of_lt (Nat.lt_succ_self _)) (Nat.ne_of_lt (Nat.lt_succ_of_lt (Nat.lt_succ_self _)))))).1, hold⟩
          iterate 5 walk_at "my cstep"
          refine wpAny_Name (wpAny_loadName_cell (c := s.heap.objs.size + 1 + 1) ?q1 ?q2 ?q3 hc1 ?_) (by decide)
          (case q1 => rfl)
          (case q2 => rfl)
          (case q3 => rfl)
          walk_at "my stepN"
          refine wpAny_Name (wpAny_loadName_cell (c := s.heap.objs.size + 1 + 1 + 1) ?q1 ?q2 ?q3 hc2 ?_) (by decide)
          (case q1 => rfl)
          (case q2 => rfl)
          (case q3 => rfl)
          walk_at "my stepN"
          refine wpAny_Name (wpAny_loadName_cell (c := s.heap.objs.size + 1) ?q1 ?q2 ?q3 hc3 ?_) (by decide)
          (case q1 => rfl)
          (case q2 => rfl)
          (case q3 => rfl)
          clear hc1 hc2 hc3
          repeat' walk_at "my cstep"
          · refine back_ok (p := p) (loose := loose) (mg := mg) (mb := mb) ⟨X0.keeps F3.keep, T0.keeps F3.keep⟩ (show d + 1 + 1 < recursionLimit by omega) hkind8 hxm.1 h12 hxm.2 (fun h7 t7 tk7 k7 => ?_)
            exact ⟨⟨x, tx, _, rfl, rfl⟩, h7, _, rfl, k7⟩
        case cd =>
          intro D h7 tk7 ys vs hD hIs hpl hlen hP hF hk
          have kp := fun b o e => hk b o (fun hm2 => absurd (List.mem_singleton.mp hm2) (Nat.ne_of_lt (Heap.lt_size e))) (Heap.get?_push_of_some _ e)
          have F7 := F6.after kp
          have N7 := News.keepsAll N6 kp
          have hvs : vs = wvj := same_list (by simpa using hlen) (fun j v e => by simpa using hP j v e)
          rw [show vs.filter (fun _ => true) = vs from List.filter_eq_self.mpr (fun _ _ => rfl), hvs] at hF
          have hbt := backs_all wtj hF
          have idX := hua
          obtain ⟨uvs, utx, hul⟩ := idX
          have hsum := wordsK_len one two W drs i (i2 + 1)
          have heq := wordsK_eq (one := one) (two := two) (W := W) (place := i) hdr2
          rw [if_pos hfrm] at heq
          rw [heq, List.length_append] at hsum
          have hs64 := hsz i hi3
          have hl1 := utx.len
          have hl2 := hbt.len
          rw [List.length_map] at hsum hl2
          clear F6 N6
          repeat' walk_at "my stepW"
          (rename News g0 _ _ _ => N8); (rename Fr g0 _ _ _ => F8)
          refine kmk_add_lit (zs := uvs ++ ys.toList) F8 N8 (its := uvs.toArray) ?zl (hIs.at ?zk) (by simp) (fun D2 h9 F9 N9 hlt => ?_) (by rw [sizeLine_eq]; show uvs.length + ys.toList.length ≤ _; omega)
          case zl =>
            rcases hul with hul | ⟨o, n, hm, hc, hd'⟩
            · exact hul.at fun o e => F8.keep ua o e
            · exact ⟨_, (N8 _ (offL_sub _ (hseq5 _ hm ⟨_, _, hd'⟩))).1, hc, n, hd'⟩
          case zk => exact fun o e => e
          clear F8 N8
          repeat' walk_at "my stepW"
          (rename News g0 _ _ _ => N10); (rename Fr g0 _ _ _ => F10)
          refine TEnd.mk (nx := (D2, _) :: offL own2 nx5) F10 N10 (fun q hq => (List.mem_cons.mp hq).elim (fun e => e ▸ .head _) fun hq => .tail _ (offL_sub _ hq)) (fun q hq => .tail _ (hown2 q hq)) (Apart.cons (fun q hq => Nat.ne_of_gt (hlt q (hown2 q hq))) offL_apart)
            ⟨fun q hq a b => .tail _ (hin5 q hq a b), ⟨ok4, _, .tail _ hok9, hokd4⟩, ⟨os5, _, .tail _ hos9, hosd5⟩, D2, ⟨uvs ++ ys.toList, by rw [heq]; exact utx.app hbt, .inr ⟨_, 0, .head _, rfl, rfl⟩⟩, rfl, rfl, rfl, rfl, rfl⟩
      · -- it does not
        have hfrm : dr.frm ≠ i := by
          have h9 : natV dr.frm ≠ (i : Int) := by assumption
          simp only [natV] at h9; omega
        (rename News g0 _ _ _ => N10); (rename Fr g0 _ _ _ => F10)
        have heq := wordsK_eq (one := one) (two := two) (W := W) (place := i) hdr2
        rw [if_neg hfrm, List.append_nil] at heq
        refine TEnd.mk (nx := offL own2 nx5) F10 N10 offL_sub hown2 offL_apart ⟨hin5, ⟨ok4, _, hok9, hokd4⟩, ⟨os5, _, hos9, hosd5⟩, ua, by rw [heq]; exact hua.more hseq5, rfl, rfl, rfl, rfl, rfl⟩
    · rintro m₂ nx₂ h2 tk2 ⟨hin, ⟨ok2, kv2, hok2, hokd2⟩, ⟨os2, sv2, hos2, hosd2⟩, ua, hua, d1, d2, d3, d4, d5⟩ F N
      replace F := reveal5 F d1 d2 d3 d4 d5
      have hKall : wordsK one two W drs i dvs.toArray.size = wordsL one two W drs i := by
        unfold wordsK wordsL
        rw [List.take_of_length_le (by rw [List.size_toArray, hdp.length]; exact Nat.le_refl _)]
      rw [hKall] at hua
      have hnc : ∀ q ∈ nx₁ ++ own, (∀ v, q.2.data ≠ .cell v) → q ∈ nx₂ := fun q hq hd' => hin q hq (news_ne N2 (show (q.1, q.2) ∈ _ from hq) (List.mem_append_left _ hok) (by rw [hokd]; exact hd' _)) (news_ne N2 (show (q.1, q.2) ∈ _ from hq) (List.mem_append_left _ hos) (by rw [hosd]; exact hd' _))
      have hnc1 : ∀ q ∈ nx₁, (∀ v, q.2.data ≠ .cell v) → q ∈ nx₂ := fun q hq hd' => hnc q (List.mem_append_left _ hq) hd'
      have hcLK : s.heap.objs.size + 1 ≠ s.heap.objs.size + 1 + 1 := Nat.ne_of_lt (Nat.lt_succ_self _)
      have hcLS : s.heap.objs.size + 1 ≠ s.heap.objs.size + 1 + 1 + 1 := Nat.ne_of_lt (Nat.lt_succ_of_lt (Nat.lt_succ_self _))
      have holx : (s.heap.objs.size + 1, ol) ∈ nx₂ := hin _ (List.mem_append_left _ hol) hcLK hcLS
      have hown : ∀ q ∈ own, q ∈ nx₂ ∧ q.1 ≠ 134 := fun q hq => ⟨hin q (List.mem_append_right _ hq) (hoff hok q hq) (hoff hos q hq), by obtain ⟨ps1, hp1, _⟩ := hTab; exact hoff hp1 q hq⟩
      obtain ⟨fvs, fn, hfa, hfl, hfs⟩ := hFr
      clear F2
      repeat' walk_at "my stepW"
      (rename News g0 _ _ _ => N3); (rename Fr g0 _ _ _ => F3)
      refine least_ok LB (fun b o e => F3.keep b o (st0 b o e)) ((hTab.more hnc1).ok F3 N3) (show d + 1 + 2 < recursionLimit by omega) (hua.list F3 N3 (fun q hq _ => hq)) (hsz i hi3) (hwd i hi3) (fun h3 b kept tk3 kp TO3 hage fresh TX3 LO => ?_)
      obtain ⟨F4, nx3, nxT, N4, sub3, TT, subT, ageT⟩ := after_tab F3 N3 kp TO3 hg134 hL134 hTab hnc1 hage
      obtain ⟨bvs, ⟨ob, hob, hbc, bn, hbd⟩, btx⟩ := TX3
      have hbL : b ≠ s.heap.objs.size := fun e => by
        obtain ⟨o, _, _, ho, _⟩ := F3.ns
        exact absurd (ho.symm.trans (show _ = none from (e ▸ fresh))) (by simp)
      have N5 : News g0 s.heap.objs.size h3 ((b, ob) :: nx3) := fun q hq => by
        rcases List.mem_cons.mp hq with rfl | hq
        · refine ⟨hob, hbL, ?_⟩
          cases hh : g0.get? b with
          | none => rfl
          | some o => have := F3.keep _ _ hh; rw [fresh] at this; cases this
        · exact N4 q hq
      clear N4
      have hbo : ∀ q ∈ own, b ≠ q.1 := fun q hq e => by have := (N3 q (hown q hq).1).1; rw [← e, fresh] at this; cases this
      have h134T : ∀ q ∈ own, q.1 ≠ 134 := fun q hq => (hown q hq).2
      have hTo : ∀ q ∈ nxT, ∀ r ∈ own, q.1 ≠ r.1 := fun q hq r hr e => by
        rcases ageT q hq with h | h | h
        · exact ap _ h r hr e
        · exact h134T r hr (e.symm.trans h)
        · have := (N3 r (hown r hr).1).1; rw [← e, h] at this; cases this
      have hlist : ∀ q ∈ nx₁, (∃ xs n, q.2.data = .seq xs n) → q.1 ≠ s.heap.objs.size + 1 + 1 ∧ q.1 ≠ s.heap.objs.size + 1 + 1 + 1 ∧ q.1 ≠ 134 := fun q hq h => hmine q (List.mem_append_left _ hq) h
      have hfa3 : (fa, listOf (List.toArray fvs) fn) ∈ nx3 := sub3 _ (hnc1 _ hfa fun v e => by cases e) (hlist _ hfa ⟨_, _, rfl⟩).2.2
      have hc134 : ∀ {c : Addr} {o : Obj} {v : Option Value}, (c, o) ∈ nx₂ → o.data = .cell v → c ≠ 134 := fun {c o v} h hd' => by
        obtain ⟨ps1, hp1, _⟩ := hTab.more hnc1
        exact news_ne N3 h hp1 (by rw [hd']; exact fun e => by cases e)
      clear F3
      repeat' walk_at "my stepW"
      (rename News g0 _ _ _ => N6); (rename Fr g0 _ _ _ => F6)
      refine kmk_add_lit (its := List.toArray fvs) (zs := fvs ++ [.ref b]) F6 N6 (kso_isList N6 (by walk_at "my own1") rfl) (kso_isList N6 (.head _) rfl) rfl (fun D3 h7 F7 N7 hlt => ?_) (by rw [sizeLine_eq]; simp; omega)
      clear F6 N6
      repeat' walk_at "my stepW"
      (rename News g0 _ _ _ => N8); (rename Fr g0 _ _ _ => F8)
      refine TEnd.mk (nx := (D3, listOf (List.toArray (fvs ++ [.ref b])) 0) :: (b, ob) :: (s.heap.objs.size + 1 + 1 + 1, os2) :: (s.heap.objs.size + 1 + 1, ok2) :: (s.heap.objs.size + 1, ol) :: (nxT ++ nx₁.filter fun q => decide (q.1 ≠ s.heap.objs.size + 1 + 1 ∧ q.1 ≠ s.heap.objs.size + 1 + 1 + 1 ∧ q.1 ≠ 134))) F8 N8 ?fs ?fo ?fa ?fj
      case fo => exact fun q hq => .tail _ (.tail _ (.tail _ (sub3 _ (hown q hq).1 (hown q hq).2)))
      case fs =>
        intro q hq
        rcases List.mem_cons.mp hq with rfl | hq
        · exact .head _
        rcases List.mem_cons.mp hq with rfl | hq
        · exact .tail _ (.tail _ (.head _))
        refine .tail _ (.tail _ (.tail _ ?_))
        rcases List.mem_cons.mp hq with rfl | hq
        · exact sub3 _ hos2 (hc134 hos2 hosd2)
        rcases List.mem_cons.mp hq with rfl | hq
        · exact sub3 _ hok2 (hc134 hok2 hokd2)
        rcases List.mem_cons.mp hq with rfl | hq
        · exact sub3 _ holx (hc134 holx hold)
        rcases List.mem_append.mp hq with hq | hq
        · exact subT q hq
        · obtain ⟨hq, hc⟩ := List.mem_filter.mp hq
          have hc := of_decide_eq_true hc
          exact sub3 _ (hin q (List.mem_append_left _ hq) hc.1 hc.2.1) hc.2.2
      case fa =>
        refine Apart.cons (fun q hq => Nat.ne_of_gt (hlt q (.tail _ (.tail _ (sub3 _ (hown q hq).1 (hown q hq).2))))) (Apart.cons hbo (Apart.cons (fun q hq => (hoff hos q hq).symm) (Apart.cons (fun q hq => (hoff hok q hq).symm) (Apart.cons (fun q hq => (hoff hol q hq).symm) fun q hq r hr => ?_))))
        rcases List.mem_append.mp hq with hq | hq
        · exact hTo q hq r hr
        · exact ap _ (List.mem_filter.mp hq).1 r hr
      case fj =>
        have hmv : ∀ q ∈ nx₁, (∃ xs n, q.2.data = .seq xs n) → q ∈ (D3, listOf (List.toArray (fvs ++ [.ref b])) 0) :: (b, ob) :: (s.heap.objs.size + 1 + 1 + 1, os2) :: (s.heap.objs.size + 1 + 1, ok2) :: (s.heap.objs.size + 1, ol) :: (nxT ++ nx₁.filter fun q => decide (q.1 ≠ s.heap.objs.size + 1 + 1 ∧ q.1 ≠ s.heap.objs.size + 1 + 1 + 1 ∧ q.1 ≠ 134)) := fun q hq h =>
          .tail _ (.tail _ (.tail _ (.tail _ (.tail _ (List.mem_append_right _ (List.mem_filter.mpr ⟨hq, decide_eq_true (hlist q hq h)⟩))))))
        refine ⟨os2, ok2, ol, sv2, kv2, D3, fun j => if j = i then kept else W' j, .tail _ (.tail _ (.head _)), hosd2, .tail _ (.tail _ (.tail _ (.head _))), hokd2, .tail _ (.tail _ (.tail _ (.tail _ (.head _)))), hold,
          TT.more (fun q hq _ => .tail _ (.tail _ (.tail _ (.tail _ (.tail _ (List.mem_append_left _ hq)))))), ⟨fvs ++ [.ref b], 0, .head _, by simp [hfl], fun j hj => ?_⟩, fun j hj => ?_, rfl, rfl, rfl⟩
        · by_cases hji : j = i
          · subst hji
            refine ⟨b, by rw [List.getElem?_append_right (by omega)]; simp [hfl], ?_⟩
            dsimp only
            rw [if_pos rfl]
            exact ⟨bvs, btx, .inr ⟨ob, bn, .tail _ (.head _), hbc, hbd⟩⟩
          · obtain ⟨bj, e, Tj⟩ := hfs j (by omega)
            refine ⟨bj, by rw [List.getElem?_append_left (by omega)]; exact e, ?_⟩
            dsimp only
            rw [if_neg hji]
            exact Tj.more hmv
        · by_cases hji : j = i
          · subst hji; dsimp only; rw [if_pos rfl]; exact LO
          · dsimp only; rw [if_neg hji]; exact hLe j (by omega)
  · rintro m₁ nx₁ h tk ⟨os, ok, ol, sv, kv, fa, W', hos, hosd, hok, hokd, hol, hold, hTab, hFr, hLe, e1, e2, e3⟩ F N
    replace F := reveal F e3
    repeat' walk_at "my stepW"
    obtain ⟨fvs, fn, hfa, hfl, hfs⟩ := hFr
    obtain ⟨b0, q0, T0'⟩ := hfs 0 (by decide)
    obtain ⟨b1, q1, T1'⟩ := hfs 1 (by decide)
    obtain ⟨b2, q2, T2'⟩ := hfs 2 (by decide)
    have hfv := three_list hfl q0 q1 q2
    refine k _ _ W' _ (fun b o hb e => F.keep b o (hsub b o hb e)) (hTab.ok F N) ⟨b0, b1, b2, by rw [← hfv]; exact kso_isList (s := { s with heap := h }) N hfa rfl, T0'.list F N (fun q hq _ => hq), T1'.list F N (fun q hq _ => hq), T2'.list F N (fun q hq _ => hq)⟩ (fun j hj => hLe j hj)
end
-- comp
section
variable {prog : Program} {w : World} {A : Around} {E : Value → Shared → Prop} {env : Env}
/-- a walk that hands out tuples -/
structure WalksX (prog : Program) (w : World) (A : Around) (I : Addr) (fp wr : List Addr) (n : Nat) (Pt : Nat → Array Value → Prop) (St : Nat → Heap → Prop) (Mid : Nat → Addr → Heap → Prop) : Prop where
  sub : ∀ b ∈ wr, b ∈ fp
  frame : ∀ i h h', St i h → (∀ b ∈ fp, ∀ o, h.get? b = some o → h'.get? b = some o) → St i h'
  item : ∀ i (s : Shared) (Q : Option Value → Shared → Prop) (E : Value → Shared → Prop), i < n → St i s.heap →
    (∀ T vals h' tk, Pt i vals → h'.IsTuple T vals → Mid i T h' → (∀ b o, b ∉ wr → s.heap.get? b = some o → h'.get? b = some o) → Q (some (.ref T)) { s with heap := h', toks := tk }) →
    wpAny (model prog w) A (pyNext (.ref I)) Q E s
  go : ∀ (elts : List Expr) (k : Nat) (pos : Pos) i T (s : Shared) (Q : Unit → Shared → Prop) (E : Value → Shared → Prop), Mid i T s.heap →
    (∀ h', St (i + 1) h' → (∀ b o, b ∉ wr → s.heap.get? b = some o → h'.get? b = some o) → Q () { s with heap := h' }) →
    wpAny (model prog w) A (letOwnedTupleGo (.Tuple elts k pos) (.ref I) (.ref T)) Q E s
  apart : ∀ i T h, Mid i T h → T ∉ wr
  done : ∀ (s : Shared) (Q : Option Value → Shared → Prop) (E : Value → Shared → Prop), St n s.heap →
    (∀ h' tk, (∀ b o, b ∉ wr → s.heap.get? b = some o → h'.get? b = some o) → Q none { s with heap := h', toks := tk }) → wpAny (model prog w) A (pyNext (.ref I)) Q E s
  self : ∀ i (s : Shared) (Q : Value → Shared → Prop) (E : Value → Shared → Prop), St i s.heap → Q (.ref I) s → wpAny (model prog w) A (pyIter (.ref I)) Q E s
theorem WalksX.of {I : Addr} {fp wr : List Addr} {n : Nat} {Pt : Nat → Array Value → Prop} {St : Nat → Heap → Prop} {Mid : Nat → Addr → Heap → Prop} (W : WalksT prog w A I fp wr n Pt St Mid) : WalksX prog w A I fp wr n Pt St Mid where
  sub := W.sub
  frame := W.frame
  item := fun i s Q E hi st h => W.item i s Q E hi st fun T vals h' tk a _ b c d => h T vals h' tk a b c d
  go := W.go
  apart := W.apart
  done := W.done
  self := W.self
/-- a list of tuples -/
theorem WalksX.list (hh : A.handled = none) (it l : Addr) (hli : l ≠ it) (items : Array Value) (Pt : Nat → Array Value → Prop) (TS : Heap → Prop)
    (hTS : ∀ h h', TS h → (∀ b o, b ≠ it → h.get? b = some o → h'.get? b = some o) → TS h')
    (hT : ∀ (i : Nat) (v : Value) (h : Heap), items[i]? = some v → TS h → ∃ T vals, v = .ref T ∧ T ≠ it ∧ h.IsTuple T vals ∧ Pt i vals) (fpT : List Addr) (hfr : ∀ h h', TS h → (∀ b ∈ fpT, ∀ o, h.get? b = some o → h'.get? b = some o) → TS h') :
    WalksX prog w A it (it :: l :: fpT) [it] items.size Pt (fun i h => h.IsListIter it l i ∧ h.IsList l items ∧ TS h) (fun i T h => (h.IsListIter it l (i + 1) ∧ h.IsList l items ∧ TS h) ∧ T ≠ it) where
  sub := fun b hb => by rw [List.mem_singleton.mp hb]; exact .head _
  frame := fun i h h' ⟨h1, h2, h3⟩ hk => ⟨h1.at fun o e => hk it (.head _) o e, h2.at fun o e => hk l (.tail _ (.head _)) o e, hfr h h' h3 fun b hb o e => hk b (.tail _ (.tail _ hb)) o e⟩
  item := fun i s Q E hi ⟨h1, h2, h3⟩ hQ => by
    refine (Walks.list hh it l hli items).item i s Q E hi ⟨h1, h2⟩ fun v h' tk hv hst hk => ?_
    have h3' := hTS _ h' h3 fun b o hb e => hk b o (by simpa using hb) e
    obtain ⟨T, vals, rfl, hTi, ht, hp⟩ := hT i v h' hv h3'
    exact hQ T vals h' tk hp ht ⟨⟨hst.1, hst.2, h3'⟩, hTi⟩ hk
  go := fun elts k pos i T s Q E ⟨⟨h1, h2, h3⟩, _⟩ hQ => letGo_listiter h1 (hQ s.heap ⟨h1, h2, h3⟩ fun _ _ _ e => e)
  apart := fun i T h ⟨_, hT⟩ hm => hT (List.mem_singleton.mp hm)
  done := fun s Q E ⟨h1, h2, _⟩ hQ => (Walks.list hh it l hli items).done s Q E ⟨h1, h2⟩ hQ
  self := fun i s Q E ⟨h1, h2, _⟩ hQ => (Walks.list hh it l hli items).self i s Q E ⟨h1, h2⟩ hQ
/-- the end of a comprehension's turn -/
def CEnd (g : Heap) (C : Addr) (J : List Value → List (Addr × Obj) → Prop) (ys : List Value) (own : List (Addr × Obj)) (s₁ : Shared) (y : Value) (s₂ : Shared) : Prop :=
  ∃ h' tk m' news' nx, s₂ = { s₁ with heap := h', toks := tk } ∧ Fr g C h' m' ∧ News g C h' news' ∧ (∀ p ∈ nx, p ∈ news') ∧ (∀ p ∈ own, p ∈ news') ∧ Apart nx own ∧ J (ys ++ [y]) nx
theorem CEnd.cons {g h' : Heap} {C : Addr} {J : List Value → List (Addr × Obj) → Prop} {ys : List Value} {nx own : List (Addr × Obj)} {s₁ : Shared} {y : Value} {m' : Str → Option Value} {tk : Nat} {T : Addr} {o : Obj} (F : Fr g C h' m') (N : News g C h' ((T, o) :: (nx ++ own))) (hlt : ∀ q ∈ nx ++ own, q.1 < T) (ap : Apart nx own) (hj : J (ys ++ [y]) ((T, o) :: nx)) :
    CEnd g C J ys own s₁ y { s₁ with heap := h', toks := tk } := by
  refine ⟨h', tk, m', _, (T, o) :: nx, rfl, F, N, fun q hq => ?_, fun q hq => .tail _ (List.mem_append_right _ hq), Apart.cons (fun q hq => Nat.ne_of_gt (hlt q (List.mem_append_right _ hq))) ap, hj⟩
  rcases List.mem_cons.mp hq with rfl | hq
  · exact .head _
  · exact .tail _ (List.mem_append_left _ hq)
theorem comp_block {s₂ : Shared} {elt iter : Expr} {elts : List Expr} {k1 : Nat} {tp : Pos} {scope : Scope} {cl : List (Str × Addr)} {pos : Pos} {RR : Value → Addr → Result → Shared → Prop}
    {I : Addr} {fp wr : List Addr} {n : Nat} {Pt : Nat → Array Value → Prop} {St : Nat → Heap → Prop} {Mid : Nat → Addr → Heap → Prop}
    (J : Nat → List Value → List (Addr × Obj) → Prop) (hcell : ∀ y ∈ scope.names, y.2 ≠ .cell) (hkind : scope.kind = .function)
    (W : WalksX prog w A I fp wr n Pt St Mid) (hsz : n ≤ sizeLine) (hst : St 0 s₂.heap) (hfp : ∀ b ∈ fp, b < s₂.heap.objs.size) (hI : ∀ i h, St i h → ∀ b ∈ fp, ∃ o, h.get? b = some o) (hJ0 : J 0 [] [])
    (turn : ∀ i T vals C m₃ (s₃ : Shared) ys nx own, i < n → Pt i vals → J i ys nx → Apart nx own → Fr (hideAll s₂.heap wr) C s₃.heap m₃ → News (hideAll s₂.heap wr) C s₃.heap (nx ++ own) → s₃.heap.IsTuple T vals →
        wpAny (model prog w) A (assign (.Tuple elts k1 tp) (compEnvC scope cl C env) (.ref T)) (fun _ s₄ => wpAny (model prog w) A (eval elt (compEnvC scope cl C env)) (fun y s₅ => CEnd (hideAll s₂.heap wr) C (J (i + 1)) ys own s₃ y s₅) (fun _ _ => False) s₄) (fun _ _ => False) s₃)
    (fin : ∀ D C h' tk m' ys nx, s₂.heap.get? D = none → s₂.heap.get? C = none → C ≠ D → h'.Ns C m' → h'.IsList D ys.toArray → J n ys nx → ys.length = n → (∀ p ∈ nx, h'.get? p.1 = some p.2 ∧ s₂.heap.get? p.1 = none ∧ p.1 ≠ D ∧ p.1 ≠ C) →
        (∀ b o, b ∉ wr → s₂.heap.get? b = some o → h'.get? b = some o) → RR (.ref D) C (.ok .next) { s₂ with heap := h', toks := tk }) :
    wpAny (model prog w) A (newList []) (fun acc s₃ => wpAny (model prog w) A (newFunctionEnv scope env.globals cl [] env.qual none .none (some env)) (fun cenv s₄ =>
      codeAny (model prog w) A (.compStart (.ListComp elt [⟨.Tuple elts k1 tp, iter, [], 0⟩] scope pos) 0 (.ref I) acc { cenv with scope := relabel scope env }) (RR acc cenv.locals) s₄) E s₃) E s₂ := by
  refine wpAny_newObj_type (wpAny_newFunctionEnv hcell (by intro y hy; simp at hy) (fun h₁ hns₁ hsb₁ => ?_) hkind)
  dsimp only at hns₁ hsb₁ ⊢
  generalize hH2 : s₂.heap.push { cls := .type "list", dict := none, data := .seq ([] : List Value).toArray } = H2 at hns₁ hsb₁ ⊢
  have hC : H2.objs.size = s₂.heap.objs.size + 1 := by rw [← hH2, Heap.size_push]
  have hDC : s₂.heap.objs.size ≠ H2.objs.size := by rw [hC]; exact Nat.ne_of_lt (Nat.lt_succ_self _)
  have below : ∀ b, b < s₂.heap.objs.size → b ≠ H2.objs.size ∧ b ≠ s₂.heap.objs.size := fun b hb => ⟨by rw [hC]; exact Nat.ne_of_lt (Nat.lt_succ_of_lt hb), Nat.ne_of_lt hb⟩
  have hDf : s₂.heap.objs.size ∉ fp := fun hm => Nat.lt_irrefl _ (hfp _ hm)
  have hCf : H2.objs.size ∉ fp := fun hm => by have := hfp _ hm; rw [hC] at this; exact Nat.lt_irrefl _ (Nat.lt_of_succ_lt this)
  have hDw : s₂.heap.objs.size ∉ wr := fun h => hDf (W.sub _ h)
  have hCw : H2.objs.size ∉ wr := fun h => hCf (W.sub _ h)
  have hCl : H2.objs.size ∉ s₂.heap.objs.size :: fp := fun hm => (List.mem_cons.mp hm).elim (fun e => hDC e.symm) hCf
  have old : ∀ b o, s₂.heap.get? b = some o → h₁.get? b = some o := fun b o e => hsb₁.extBut b o (below b (Heap.lt_size e)).1 (Heap.get?_push_of_some _ (hH2 ▸ Heap.get?_push_of_some _ e))
  have hacc : h₁.get? s₂.heap.objs.size = some (LCg.lst []) := hsb₁.extBut _ _ hDC (Heap.get?_push_of_some _ (hH2 ▸ Heap.get?_push_size _ rfl))
  have hst₁ : St 0 h₁ := W.frame _ _ _ hst fun b _ o e => old b o e
  have fresh : ∀ a, s₂.heap.objs.size ≤ a → s₂.heap.get? a = none := fun a ha => by
    cases e : s₂.heap.get? a with
    | none => rfl
    | some o' => exact absurd (Heap.lt_size e) (Nat.not_lt.mpr ha)
  have gof : ∀ b o, (hideAll s₂.heap wr).get? b = some o → s₂.heap.get? b = some o := fun b o e => of_hideAll _ e
  have gwr : ∀ b o, (hideAll s₂.heap wr).get? b = some o → b ∉ wr := fun b o e hb => by rw [hideAll_none _ hb] at e; cases e
  have hDg : (hideAll s₂.heap wr).get? s₂.heap.objs.size = none := by
    cases e : (hideAll s₂.heap wr).get? s₂.heap.objs.size with
    | none => rfl
    | some o => have := gof _ _ e; rw [fresh _ (Nat.le_refl _)] at this; cases this
  have hab : (hideAll s₂.heap wr).objs.size ≤ H2.objs.size := by rw [hideAll_size, hC]; exact Nat.le_succ _
  have loop : ∀ s₃ : Shared, s₃ = { s₂ with heap := h₁, toks := s₂.toks + ([] : List (Str × Value)).length } →
      codeAny (model prog w) A (.compLoop (.ListComp elt [⟨.Tuple elts k1 tp, iter, [], 0⟩] scope pos) 0 (.ref I) (.ref s₂.heap.objs.size) (compEnvC scope cl H2.objs.size env))
        (RR (.ref s₂.heap.objs.size) H2.objs.size) s₃ := by
    rintro s₃ rfl
    refine LCp.codeAny_compLoop_pair
      (fun k s' => ∃ h' tk i ys m' nx, s' = { s₂ with heap := h', toks := tk } ∧ i ≤ n ∧ k = n + 1 - i ∧ ys.length = i ∧ St i h' ∧ Fr (hideAll s₂.heap wr) H2.objs.size h' m' ∧ h'.get? s₂.heap.objs.size = some (LCg.lst ys) ∧
        News (hideAll s₂.heap wr) H2.objs.size h' nx ∧ (∀ p ∈ nx, p.1 ∉ s₂.heap.objs.size :: fp) ∧ J i ys nx) ?_ (n + 1)
      ⟨h₁, _, 0, [], _, [], rfl, Nat.zero_le _, rfl, rfl, hst₁, ⟨hns₁, fun b o e => old b o (gof b o e), hab⟩, hacc, News.nil, (fun p hp => nomatch hp), hJ0⟩
    rintro k s' ⟨h', tk, i, ys, m', nx, rfl, hi, rfl, hyl, hst', F', hD', N', off', hJ'⟩
    have next : ∀ hh : Heap, (∀ b o, b ∉ wr → h'.get? b = some o → hh.get? b = some o) → Fr (hideAll s₂.heap wr) H2.objs.size hh m' ∧ News (hideAll s₂.heap wr) H2.objs.size hh nx ∧ hh.get? s₂.heap.objs.size = some (LCg.lst ys) := fun hh hk =>
      ⟨⟨F'.ns.at' fun o e => hk _ o hCw e, fun b o e => hk b o (gwr b o e) (F'.keep b o e), F'.above⟩, fun p hp => ⟨hk _ _ (fun q => off' p hp (.tail _ (W.sub _ q))) (N' p hp).1, (N' p hp).2⟩, hk _ _ hDw hD'⟩
    by_cases hlt : i < n
    · refine W.item i _ _ _ hlt hst' fun T vals h₂ tk₂ hPv hT hMid hk₂ => ?_
      refine W.go _ k1 tp i T _ _ _ hMid fun h₃ hst₃ hk₃ => ?_
      have hT₃ : h₃.IsTuple T vals := hT.at fun o e => hk₃ T o (W.apart i T h₂ hMid) e
      obtain ⟨F₃, N₃, hD₃⟩ := next h₃ fun b o hb e => hk₃ b o hb (hk₂ b o hb e)
      have Nown : News (hideAll s₂.heap wr) H2.objs.size h₃ (ownOf (hideAll s₂.heap wr) (s₂.heap.objs.size :: fp) h₃) := news_ownOf hCl
      have ap : Apart nx (ownOf (hideAll s₂.heap wr) (s₂.heap.objs.size :: fp) h₃) := fun p hp q hq e => off' p hp (e ▸ ownOf_sub q hq)
      refine wpAny_mono (turn i T vals H2.objs.size m' { s₂ with heap := h₃, toks := tk₂ } ys nx _ hlt hPv hJ' ap F₃ (N₃.append Nown) hT₃) (fun _ s₄ h₄ => wpAny_mono h₄ (fun y s₅ h₅ => ?_) fun _ _ e => e.elim) fun _ _ e => e.elim
      obtain ⟨h₅, tk₅, m₅, news₅, nx₅, rfl, F₅, N₅, a1, a2, a3, hJ₅⟩ := h₅
      have hke : ∀ b ∈ s₂.heap.objs.size :: fp, ∀ o, h₃.get? b = some o → h₅.get? b = some o := fun b hb o e => by
        cases hn : (hideAll s₂.heap wr).get? b with
        | some o₀ =>
          have : o₀ = o := by have := F₃.keep b o₀ hn; rw [e] at this; exact (Option.some.inj this).symm
          exact this ▸ F₅.keep b o₀ hn
        | none => exact (N₅ _ (a2 _ (mem_ownOf hb hn e))).1
      have hD₅ := hke _ (.head _) _ hD₃
      have hst₅ : St (i + 1) h₅ := W.frame _ _ _ hst₃ fun b hb o e => hke b (.tail _ hb) o e
      refine append_at (hsz := by show ys.toArray.size ≤ sizeLine; rw [List.size_toArray, hyl]; exact Nat.le_trans hi hsz) hD₅ fun h₆ hs₆ hD₆ => ?_
      have hoff : ∀ p ∈ nx₅, p.1 ∉ s₂.heap.objs.size :: fp := fun p hp hb => by
        have nn := (N₅ p (a1 p hp)).2.2
        have hex : ∃ o, h₃.get? p.1 = some o := by
          rcases List.mem_cons.mp hb with e | hb
          · exact ⟨_, e ▸ hD₃⟩
          · exact hI _ _ hst₃ _ hb
        obtain ⟨o, ho⟩ := hex
        exact a3 p hp _ (mem_ownOf hb nn ho) rfl
      refine ⟨n + 1 - (i + 1), by omega, h₆, tk₅, i + 1, ys ++ [y], m₅, nx₅, rfl, hlt, rfl, by rw [List.length_append, List.length_singleton, hyl], W.frame _ _ _ hst₅ fun b hb o e => hs₆.extBut b o (fun q => hDf (q ▸ hb)) e,
        ⟨F₅.ns.sameBut hs₆ (Ne.symm hDC), fun b o e => hs₆.extBut b o (fun q => by rw [q, hDg] at e; cases e) (F₅.keep b o e), F₅.above⟩, hD₆.trans (congrArg some (LCg.lst_snoc ys y)), fun p hp => ⟨hs₆.extBut _ _ (fun q => hoff p hp (q ▸ .head _)) (N₅ p (a1 p hp)).1, (N₅ p (a1 p hp)).2⟩, hoff, hJ₅⟩
    · obtain rfl : i = n := Nat.le_antisymm hi (Nat.not_lt.mp hlt)
      refine W.done _ _ _ hst' fun h₂ tk₂ hk₂ => ?_
      obtain ⟨F₂, N₂, hD₂⟩ := next h₂ hk₂
      refine fin _ _ h₂ tk₂ m' ys nx (fresh _ (Nat.le_refl _)) (fresh _ (by rw [hC]; exact Nat.le_succ _)) (Ne.symm hDC) F₂.ns ⟨_, hD₂, rfl, _, rfl⟩ hJ' hyl (fun p hp => ⟨(N₂ p hp).1, ?_, fun e => off' p hp (e ▸ .head _), (N₂ p hp).2.1⟩) fun b o hb e => F₂.keep b o (hideAll_get _ e hb)
      cases e : s₂.heap.get? p.1 with
      | none => rfl
      | some o =>
        have := (N₂ p hp).2.2
        rw [hideAll_get _ e fun hb => off' p hp (.tail _ (W.sub _ hb))] at this; cases this
  exact codeAny_compStart_list (loop _ rfl) (W.self 0 _ _ _ hst₁ (loop _ rfl))
theorem comp_tup {s : Shared} {elt iter : Expr} {elts : List Expr} {k1 : Nat} {tp : Pos} {scope : Scope} {cl : List (Str × Addr)} {pos : Pos} {Q : Value → Shared → Prop}
    (J : Nat → List Value → List (Addr × Obj) → Prop)
    (hclos : closureFor scope env = pure cl) (hcell : ∀ y ∈ scope.names, y.2 ≠ .cell) (hkind : scope.kind = .function)
    (hnames : ∀ y ∈ scope.names, y.2 = .local → scope.names.lookup y.1 = some .local)
    (h : wpAny (model prog w) A (eval iter env) (fun xv s₁ => wpAny (model prog w) A (pyIter xv) (fun it s₂ => ∃ I fp wr n Pt St Mid, it = .ref I ∧ WalksX prog w A I fp wr n Pt St Mid ∧ n ≤ sizeLine ∧ St 0 s₂.heap ∧ (∀ b ∈ fp, b < s₂.heap.objs.size) ∧ (∀ i h, St i h → ∀ b ∈ fp, ∃ o, h.get? b = some o) ∧ J 0 [] [] ∧
      (∀ i T vals C m₃ (s₃ : Shared) ys nx own, i < n → Pt i vals → J i ys nx → Apart nx own → Fr (hideAll s₂.heap wr) C s₃.heap m₃ → News (hideAll s₂.heap wr) C s₃.heap (nx ++ own) → s₃.heap.IsTuple T vals →
        wpAny (model prog w) A (assign (.Tuple elts k1 tp) (compEnvC scope cl C env) (.ref T)) (fun _ s₄ => wpAny (model prog w) A (eval elt (compEnvC scope cl C env)) (fun y s₅ => CEnd (hideAll s₂.heap wr) C (J (i + 1)) ys own s₃ y s₅) (fun _ _ => False) s₄) (fun _ _ => False) s₃) ∧
      (∀ D h' tk ys nx, s₂.heap.get? D = none → h'.IsList D ys.toArray → J n ys nx → ys.length = n → (∀ p ∈ nx, h'.get? p.1 = some p.2 ∧ s₂.heap.get? p.1 = none ∧ p.1 ≠ D) →
        (∀ b o, b ∉ wr → s₂.heap.get? b = some o → h'.get? b = some o) → Q (.ref D) { s₂ with heap := h', toks := tk })) E s₁) E s)
    (hs : ∀ x, foldedSetIterable iter env x = pure x := by intro _; rfl) :
    wpAny (model prog w) A (eval (.ListComp elt [⟨.Tuple elts k1 tp, iter, [], 0⟩] scope pos) env) Q E s := by
  rw [eval_ListComp]
  refine wpAny_comprehension_free (use := none) rfl hs hclos hkind hnames (wpAny_mono h (fun xv s₁ h₁ => wpAny_mono h₁ (fun it s₂ h₂ => ?_) fun _ _ e => e) fun _ _ e => e)
  obtain ⟨I, fp, wr, n, Pt, St, Mid, rfl, W, hsz, hst, hfp, hI, hJ0, turn, fin⟩ := h₂
  refine comp_block J hcell hkind W hsz hst hfp hI hJ0 turn fun D C h' tk m' ys nx hD hC hCD hn hl hJ hyl hnx hk => ?_
  refine ⟨m', hn, fun h'' hs'' => fin D h'' tk ys nx hD (hl.at fun o e => hs''.extBut _ _ (Ne.symm hCD) e) hJ hyl (fun p hp => ⟨hs''.extBut _ _ (hnx p hp).2.2.2 (hnx p hp).1, (hnx p hp).2.1, (hnx p hp).2.2.1⟩) fun b o hb e => hs''.extBut b o (fun q => by rw [q, hC] at e; cases e) (hk b o hb e)⟩
theorem assign_comp_tup {s : Shared} {elt iter : Expr} {elts : List Expr} {k1 : Nat} {tp py : Pos} {y : Str} {scope : Scope} {cl : List (Str × Addr)} {pos spos : Pos} {Q : Flow → Shared → Prop}
    (J : Nat → List Value → List (Addr × Obj) → Prop) (hsw : swapsWith (.ListComp elt [⟨.Tuple elts k1 tp, iter, [], 0⟩] scope pos) (some (.Name y py)) spos.line env = pure true)
    (hclos : closureFor scope env = pure cl) (hcell : ∀ y ∈ scope.names, y.2 ≠ .cell) (hkind : scope.kind = .function)
    (hnames : ∀ y ∈ scope.names, y.2 = .local → scope.names.lookup y.1 = some .local)
    (hy : env.kindOf y = some .local) (hp : (env.scope.kind == .class || (env.scope.kind == .module && env.locals != env.globals)) = false)
    (h : wpAny (model prog w) A (eval iter env) (fun xv s₁ => wpAny (model prog w) A (pyIter xv) (fun it s₂ => ∃ I fp wr n Pt St Mid, it = .ref I ∧ WalksX prog w A I fp wr n Pt St Mid ∧ n ≤ sizeLine ∧ St 0 s₂.heap ∧ (∀ b ∈ fp, b < s₂.heap.objs.size) ∧ (∀ i h, St i h → ∀ b ∈ fp, ∃ o, h.get? b = some o) ∧ J 0 [] [] ∧
      (∀ i T vals C m₃ (s₃ : Shared) ys nx own, i < n → Pt i vals → J i ys nx → Apart nx own → Fr (hideAll s₂.heap wr) C s₃.heap m₃ → News (hideAll s₂.heap wr) C s₃.heap (nx ++ own) → s₃.heap.IsTuple T vals →
        wpAny (model prog w) A (assign (.Tuple elts k1 tp) (compEnvC scope cl C env) (.ref T)) (fun _ s₄ => wpAny (model prog w) A (eval elt (compEnvC scope cl C env)) (fun y s₅ => CEnd (hideAll s₂.heap wr) C (J (i + 1)) ys own s₃ y s₅) (fun _ _ => False) s₄) (fun _ _ => False) s₃) ∧
      ∃ m, s₂.heap.Ns env.locals m ∧ env.locals ∉ wr ∧
      (∀ D h' tk ys nx, s₂.heap.get? D = none → h'.IsList D ys.toArray → J n ys nx → ys.length = n → (∀ p ∈ nx, h'.get? p.1 = some p.2 ∧ s₂.heap.get? p.1 = none ∧ p.1 ≠ D) → h'.Ns env.locals (fun z => if z = y then some (.ref D) else m z) →
        (∀ b o, b ≠ env.locals → b ∉ wr → s₂.heap.get? b = some o → h'.get? b = some o) → Q .next { s₂ with heap := h', toks := tk })) E s₁) E s)
    (hs : ∀ x, foldedSetIterable iter env x = pure x := by intro _; rfl) :
    wpAny (model prog w) A (exec (.Assign [.Name y py] (.ListComp elt [⟨.Tuple elts k1 tp, iter, [], 0⟩] scope pos) spos) env) Q E s := by
  rw [exec_Assign_Name_used _ _ _ _ hsw]
  refine wpAny_bind (wpAny_standAt (wpAny_bind ?_))
  show wpAny _ A (do let _ ← comprehension (.ListComp elt [⟨.Tuple elts k1 tp, iter, [], 0⟩] scope pos) scope env _ (newList []) false (eval iter env) (some (assign (.Name y py) env))) _ _ s
  refine wpAny_bind (wpAny_mono (wpAny_comprehension_free (use := some (assign (.Name y py) env)) (Q := fun _ s' => Q .next s') rfl hs hclos hkind hnames
    (wpAny_mono h (fun xv s₁ h₁ => wpAny_mono h₁ (fun it s₂ h₂ => ?_) fun _ _ e => e) fun _ _ e => e)) (fun _ s' hq => wpAny_pure (wpAny_pure hq)) fun _ _ e => e)
  obtain ⟨I, fp, wr, n, Pt, St, Mid, rfl, W, hsz, hst, hfp, hI, hJ0, turn, m, hm, hLw, fin⟩ := h₂
  refine comp_block (RR := fun acc C => compPost (model prog w) A E (some (assign (.Name y py) env)) (fun _ s' => Q .next s') acc C) J hcell hkind W hsz hst hfp hI hJ0 turn fun D C h' tk m' ys nx hD hC hCD hn hl hJ hyl hnx hk => ?_
  have hLe : ∃ o, s₂.heap.get? env.locals = some o := let ⟨o, _, _, ho, _⟩ := hm; ⟨o, ho⟩
  obtain ⟨oL, hoL⟩ := hLe
  have hLC : env.locals ≠ C := fun e => by rw [← e, hoL] at hC; cases hC
  have hLD : env.locals ≠ D := fun e => by rw [← e, hoL] at hD; cases hD
  show wpAny _ A (assign (.Name y py) env (.ref D)) _ _ _
  refine wpAny_assign_Name (wpAny_storeName_local hy (hm.at' fun o e => hk _ o hLw e) (fun h₂ hn₂ hs₂ => ?_) hp)
  refine ⟨m', hn.sameBut hs₂ (Ne.symm hLC), fun h'' hs'' => fin D h'' _ ys nx hD (hl.at fun o e => hs''.extBut _ _ (Ne.symm hCD) (hs₂.extBut _ _ (Ne.symm hLD) e)) hJ hyl (fun p hp => ⟨hs''.extBut _ _ (hnx p hp).2.2.2 (hs₂.extBut _ _ (fun q => ?_) (hnx p hp).1), (hnx p hp).2.1, (hnx p hp).2.2.1⟩) (hn₂.sameBut hs'' hLC) fun b o hb hw e => hs''.extBut b o (fun q => by rw [q, hC] at e; cases e) (hs₂.extBut b o hb (hk b o hw e))⟩
  have := (hnx p hp).2.1
  rw [q, hoL] at this; cases this
theorem comp_assign4 {s : Shared} {a b c d : Str} {pa pb pc pd tp : Pos} {kk : Nat} {T : Addr} {x y z u : Value} {m : Str → Option Value} {Q : Unit → Shared → Prop} (hh : A.handled = none) (ht : s.heap.IsTuple T #[x, y, z, u])
    (ha : env.kindOf a = some .local) (hb : env.kindOf b = some .local) (hc : env.kindOf c = some .local) (hd : env.kindOf d = some .local) (hp : (env.scope.kind == .class || (env.scope.kind == .module && env.locals != env.globals)) = false) (hn : s.heap.Ns env.locals m)
    (h : ∀ (h' : Heap) (tk : Nat), h'.Ns env.locals (fun k => if k = d then some u else if k = c then some z else if k = b then some y else if k = a then some x else m k) → (∀ c o, c ≠ env.locals → s.heap.get? c = some o → h'.get? c = some o) → Q () { s with heap := h', toks := tk }) :
    wpAny (model prog w) A (assign (.Tuple [.Name a pa, .Name b pb, .Name c pc, .Name d pd] kk tp) env (.ref T)) Q E s := by
  refine wpAny_assign_Tuple hh ht rfl rfl fun h₁ he₁ => ?_
  have hL : env.locals ≠ s.heap.objs.size := Nat.ne_of_lt hn.lt
  have hn₁ : h₁.Ns env.locals m := hn.at' fun o e => he₁ _ o hL e
  have up₁ : ∀ c o, s.heap.get? c = some o → h₁.get? c = some o := fun c o e => he₁ c o (Nat.ne_of_lt (Heap.lt_size e)) e
  show wpAny _ _ (assignInOrder [assign (.Name a pa) env, assign (.Name b pb) env, assign (.Name c pc) env, assign (.Name d pd) env] [x, y, z, u]) _ _ _
  refine assignInOrder_cons (wpAny_assign_Name (wpAny_storeName_local ha hn₁ (fun h₂ hn₂ hs₂ => ?_) hp))
  refine assignInOrder_cons (wpAny_assign_Name (wpAny_storeName_local hb hn₂ (fun h₃ hn₃ hs₃ => ?_) hp))
  refine assignInOrder_cons (wpAny_assign_Name (wpAny_storeName_local hc hn₃ (fun h₄ hn₄ hs₄ => ?_) hp))
  refine assignInOrder_cons (wpAny_assign_Name (wpAny_storeName_local hd hn₄ (fun h₅ hn₅ hs₅ => ?_) hp))
  refine assignInOrder_nil ?_
  exact h h₅ _ hn₅ fun c o hc e => hs₅.extBut c o hc (hs₄.extBut c o hc (hs₃.extBut c o hc (hs₂.extBut c o hc (up₁ c o e))))
end
/-- the ledger behind a comprehension whose list is assigned -/
theorem comp_ledger {g h9 h10 h11 : Heap} {L D5 : Addr} {m m9 : Str → Option Value} {nx7 nx : List (Addr × Obj)} {ys : List Value} {wr : List Addr} (F9 : Fr g L h9 m9) (N7 : News g L h9 nx7) (hk10 : ∀ b o, h9.get? b = some o → h10.get? b = some o) (hD5 : h10.get? D5 = none) (hl5 : h11.IsList D5 ys.toArray)
    (hnx5 : ∀ p ∈ nx, h11.get? p.1 = some p.2 ∧ h10.get? p.1 = none ∧ p.1 ≠ D5) (hns5 : h11.Ns L m) (hk5 : ∀ b o, b ≠ L → b ∉ wr → h10.get? b = some o → h11.get? b = some o) (hwr : ∀ b ∈ wr, h9.objs.size ≤ b) :
    ∃ oD n, oD.cls = .type "list" ∧ oD.data = .seq ys.toArray n ∧ Fr g L h11 m ∧ News g L h11 ((D5, oD) :: (nx ++ nx7)) := by
  obtain ⟨oD, hoD, hcD, nD, hdD⟩ := hl5
  have hup : ∀ b o, b ≠ L → h9.get? b = some o → h11.get? b = some o := fun b o hb e => hk5 b o hb (fun hw => absurd (Heap.lt_size e) (Nat.not_lt.mpr (hwr b hw))) (hk10 b o e)
  have hgL : ∀ b o, g.get? b = some o → b ≠ L := fun b o e q => absurd (Nat.lt_of_lt_of_le (Heap.lt_size e) F9.above) (q ▸ Nat.lt_irrefl _)
  have hno : ∀ a, h10.get? a = none → a ≠ L ∧ g.get? a = none := fun a ha => by
    constructor
    · intro q
      obtain ⟨o, _, _, ho, _⟩ := F9.ns
      rw [q, hk10 _ _ ho] at ha; cases ha
    · cases e : g.get? a with
      | none => rfl
      | some o => rw [hk10 _ _ (F9.keep _ _ e)] at ha; cases ha
  refine ⟨oD, nD, hcD, hdD, ⟨hns5, fun b o e => hup b o (hgL b o e) (F9.keep b o e), F9.above⟩, fun p hp => ?_⟩
  rcases List.mem_cons.mp hp with rfl | hp
  · exact ⟨hoD, hno _ hD5⟩
  · rcases List.mem_append.mp hp with hp | hp
    · exact ⟨(hnx5 p hp).1, hno _ (hnx5 p hp).2.1⟩
    · exact ⟨hup _ _ (N7 p hp).2.1 (N7 p hp).1, (N7 p hp).2⟩
-- plain
theorem takes_nil (q : List Nat) : takesL [[]] q = true := by simp [takesL]
/-- a word over the two signs -/
def Over (one two : Nat) (x : List Nat) : Prop := ∀ c ∈ x, c = one ∨ c = two
theorem sub_iff {x y : List Nat} : x.isSublist y = true ↔ x.Sublist y := List.isSublist_iff_sublist
-- laid behind
theorem strip_sub (c : Nat) (x q : List Nat) : (stripL c x).Sublist q ↔ x.Sublist (q ++ [c]) := by
  unfold stripL
  constructor
  · intro h
    split at h
    · rename_i hl
      have hne : x ≠ [] := by rintro rfl; simp at hl
      have e : x = x.dropLast ++ [c] := by
        have h1 := List.dropLast_concat_getLast hne
        rw [List.getLast?_eq_some_getLast hne] at hl
        rw [Option.some.inj hl] at h1
        exact h1.symm
      rw [e]
      exact h.append (List.Sublist.refl _)
    · exact h.trans (List.sublist_append_left _ _)
  · intro h
    obtain ⟨a, b, e, ha, hb⟩ := List.sublist_append_iff.mp h
    have hb2 : b = [] ∨ b = [c] := by
      cases hb with
      | cons _ h => exact .inl (List.sublist_nil.mp h)
      | cons_cons _ h => rw [List.sublist_nil.mp h]; exact .inr rfl
    rcases hb2 with rfl | rfl
    · rw [List.append_nil] at e; subst e
      split
      · exact (List.dropLast_sublist _).trans ha
      · exact ha
    · subst e
      rw [if_pos (by simp)]
      simpa using ha
-- taken out of the front
theorem read_sub (c : Nat) (x q : List Nat) : (c :: x).Sublist q ↔ ∃ r, readL c q = some r ∧ x.Sublist r := by
  induction q with
  | nil =>
    constructor
    · intro h; cases h
    · rintro ⟨r, h, _⟩; simp [readL] at h
  | cons a q ih =>
    by_cases hac : a = c
    · subst hac
      have e : readL a (a :: q) = some q := by simp [readL, List.idxOf?_cons]
      rw [List.cons_sublist_cons, e]
      constructor
      · intro h; exact ⟨q, rfl, h⟩
      · rintro ⟨r, h, hs⟩; cases h; exact hs
    · have hac' : (a == c) = false := by simpa using hac
      have e : readL c (a :: q) = readL c q := by
        unfold readL
        rw [List.idxOf?_cons, hac']
        cases q.idxOf? c <;> simp
      rw [e, ← ih]
      constructor
      · intro h
        cases h with
        | cons _ h => exact h
        | cons_cons => exact absurd rfl hac
      · intro h; exact h.cons _
theorem rev_sub (x q : List Nat) : x.reverse.Sublist q ↔ x.Sublist q.reverse := by
  rw [← List.reverse_sublist, List.reverse_reverse]
theorem swap_swap {one two : Nat} (h12 : one ≠ two) : ∀ {x : List Nat}, Over one two x → (x.map (swapL one two)).map (swapL one two) = x
  | [], _ => rfl
  | c :: r, h => by
    rw [List.map_cons, List.map_cons, swap_swap h12 fun c m => h c (.tail _ m)]
    rcases h c (.head _) with rfl | rfl
    · simp [swapL, Ne.symm h12]
    · simp [swapL, Ne.symm h12]
theorem swap_sub {one two : Nat} (h12 : one ≠ two) {x q : List Nat} (hx : Over one two x) (hq : Over one two q) : (x.map (swapL one two)).Sublist q ↔ x.Sublist (q.map (swapL one two)) := by
  constructor
  · intro h
    have := h.map (swapL one two)
    rwa [swap_swap h12 hx] at this
  · intro h
    have := h.map (swapL one two)
    rwa [swap_swap h12 hq] at this
/-- the halving, spelled from the front -/
def halvF : Option Nat → List Nat → List Nat
  | _, [] => []
  | sp, c :: r => if sp = some c then halvF none r else c :: halvF (some c) r
theorem halved_eq : ∀ (x : List Nat) (sh : List Nat) (sp : Option Nat), (x.foldl hstep (sh, sp.toList)).1 = sh ++ halvF sp x
  | [], sh, sp => by simp [halvF]
  | c :: r, sh, sp => by
    rw [List.foldl_cons]
    cases sp with
    | none =>
      rw [show hstep (sh, (none : Option Nat).toList) c = (sh ++ [c], (some c).toList) by simp [hstep], halved_eq r (sh ++ [c]) (some c)]
      simp [halvF]
    | some a =>
      by_cases h : a = c
      · subst h
        rw [show hstep (sh, (some a).toList) a = (sh, (none : Option Nat).toList) by simp [hstep], halved_eq r sh none]
        simp [halvF]
      · have h' : ¬ [c] = [a] := by simpa using fun e => h e.symm
        rw [show hstep (sh, (some a).toList) c = (sh ++ [c], (some c).toList) by simp [hstep, Ne.symm h], halved_eq r (sh ++ [c]) (some c)]
        simp [halvF, h]
def twiceL (q : List Nat) : List Nat := q.flatMap fun x => [x, x]
theorem twice_cons (a : Nat) (q : List Nat) : twiceL (a :: q) = a :: a :: twiceL q := rfl
-- from the state 'half of a pair is spent': the next sign may be the second one of a pair
theorem halv_sub : ∀ (q x : List Nat), ((halvF none x).Sublist q ↔ x.Sublist (twiceL q)) ∧ ∀ a, ((halvF (some a) x).Sublist q ↔ x.Sublist (a :: twiceL q))
  | q, [] => by simp [halvF]
  | [], c :: x => by
    have ih := halv_sub [] x
    refine ⟨by simp [halvF, twiceL], fun a => ?_⟩
    unfold halvF
    by_cases h : a = c
    · subst h
      rw [if_pos rfl, ih.1, List.cons_sublist_cons]
    · rw [if_neg (by simpa using h)]
      simp only [twiceL, List.flatMap_nil, List.sublist_nil, reduceCtorEq, false_iff]
      intro hs
      cases hs with
      | cons _ h => cases h
      | cons_cons => exact h rfl
  | b :: q, c :: x => by
    have ihq := halv_sub q (c :: x)
    have ihx := halv_sub q x
    have ihx2 := halv_sub (b :: q) x
    have none_ : (halvF none (c :: x)).Sublist (b :: q) ↔ (c :: x).Sublist (twiceL (b :: q)) := by
      unfold halvF
      rw [if_neg (by simp), twice_cons]
      by_cases h : c = b
      · subst h
        rw [List.cons_sublist_cons, List.cons_sublist_cons]
        exact ihx.2 c
      · have e1 : (c :: halvF (some c) x).Sublist (b :: q) ↔ (c :: halvF (some c) x).Sublist q := by
          constructor
          · intro hs
            cases hs with
            | cons _ h => exact h
            | cons_cons => exact absurd rfl h
          · exact fun h => h.cons _
        have e2 : (c :: x).Sublist (b :: b :: twiceL q) ↔ (c :: x).Sublist (twiceL q) := by
          constructor
          · intro hs
            cases hs with
            | cons _ hs =>
              cases hs with
              | cons _ h => exact h
              | cons_cons => exact absurd rfl h
            | cons_cons => exact absurd rfl h
          · exact fun h => (h.cons _).cons _
        rw [e1, e2]
        have := ihq.1
        unfold halvF at this
        rwa [if_neg (by simp)] at this
    refine ⟨none_, fun a => ?_⟩
    by_cases h : a = c
    · subst h
      unfold halvF
      rw [if_pos rfl, List.cons_sublist_cons]
      exact ihx2.1
    · have e : halvF (some a) (c :: x) = halvF none (c :: x) := by
        unfold halvF
        rw [if_neg (by simpa using h), if_neg (by simp)]
      rw [e, none_]
      constructor
      · exact fun h => h.cons _
      · intro hs
        cases hs with
        | cons _ h => exact h
        | cons_cons => exact absurd rfl h
termination_by q x => q.length + x.length
theorem halved_sub (x q : List Nat) : (halvedL x).Sublist q ↔ x.Sublist (twiceL q) := by
  have e : halvedL x = halvF none x := by
    unfold halvedL
    have := halved_eq x [] none
    simpa using this
  rw [e]
  exact (halv_sub q x).1
-- plain2
def codeOf (kind : Nat) : Nat := [21, 34, 20, 33, 31, 32, 35, 16].getD kind 0
def stepOf (dr : Draw) : Step := ⟨dr.frm, codeOf dr.kind, if dr.kind < 4 then [dr.c] else [], dr.goal⟩
theorem any_iff {α : Type} {l : List α} {p : α → Bool} : l.any p = true ↔ ∃ x, x ∈ l ∧ p x = true := List.any_eq_true
theorem toList_any {α : Type} {o : Option α} {p : α → Bool} : o.toList.any p = true ↔ ∃ x, o = some x ∧ p x = true := by
  cases o <;> simp
/-- a deed, told back and forth -/
theorem deed_iff {one two : Nat} (h12 : one ≠ two) {kind c : Nat} (hk : kind < 8) {x q : List Nat} (hx : Over one two x) (hq : Over one two q) :
    (backL one two kind c x).isSublist q = true ↔ (doneL one two (natV (codeOf kind)) (if kind < 4 then [c] else []) q).any (fun r => x.isSublist r) = true := by
  rw [sub_iff]
  have e : kind = 0 ∨ kind = 1 ∨ kind = 2 ∨ kind = 3 ∨ kind = 4 ∨ kind = 5 ∨ kind = 6 ∨ kind = 7 := lt8 (by omega)
  rcases e with rfl | rfl | rfl | rfl | rfl | rfl | rfl | rfl
  · show (stripL c x).Sublist q ↔ ([q ++ [c]]).any _ = true
    rw [strip_sub]; simp [sub_iff]
  · show (stripL c (stripL c x)).Sublist q ↔ ([q ++ ([c] ++ [c])]).any _ = true
    rw [strip_sub, strip_sub]; simp [sub_iff]
  · show (c :: x).Sublist q ↔ (readsL c 1 q).toList.any _ = true
    rw [read_sub, toList_any]
    simp only [sub_iff]; rfl
  · show (c :: c :: x).Sublist q ↔ (readsL c 2 q).toList.any _ = true
    rw [read_sub, toList_any]
    simp only [sub_iff]
    show _ ↔ ∃ r, (readsL c 1 q).bind (readL c) = some r ∧ x.Sublist r
    show _ ↔ ∃ r, ((some q).bind (readL c)).bind (readL c) = some r ∧ x.Sublist r
    constructor
    · rintro ⟨r, h1, h2⟩
      obtain ⟨r', h3, h4⟩ := (read_sub c x r).mp h2
      exact ⟨r', by simp [h1, h3], h4⟩
    · rintro ⟨r', h1, h2⟩
      cases hr : readL c q with
      | none => simp [hr] at h1
      | some r => exact ⟨r, rfl, (read_sub c x r).mpr ⟨r', by simpa [hr] using h1, h2⟩⟩
  · show x.reverse.Sublist q ↔ ([q.reverse]).any _ = true
    rw [rev_sub]; simp [sub_iff]
  · show (x.map (swapL one two)).Sublist q ↔ ([q.map (swapL one two)]).any _ = true
    rw [swap_sub h12 hx hq]; simp [sub_iff]
  · show (halvedL x).Sublist q ↔ ([twiceL q]).any _ = true
    rw [halved_sub]; simp [sub_iff]
  · show x.Sublist q ↔ ([q]).any _ = true
    simp [sub_iff]
theorem back_over {one two : Nat} {kind c : Nat} {x : List Nat} (hc : c = one ∨ c = two) (hx : Over one two x) : Over one two (backL one two kind c x) ∧ (backL one two kind c x).length ≤ x.length + 2 := by
  have hs : ∀ y : List Nat, Over one two y → Over one two (stripL c y) := fun y hy a ha => by
    unfold stripL at ha
    split at ha
    · exact hy a ((List.dropLast_sublist _).subset ha)
    · exact hy a ha
  unfold backL
  split
  · exact ⟨hs x hx, by have := strip_len c x; omega⟩
  · exact ⟨hs _ (hs x hx), by have := strip_len c x; have := strip_len c (stripL c x); omega⟩
  · exact ⟨fun a ha => (List.mem_cons.mp ha).elim (fun e => e ▸ hc) (hx a), by simp⟩
  · exact ⟨fun a ha => (List.mem_cons.mp ha).elim (fun e => e ▸ hc) fun ha => (List.mem_cons.mp ha).elim (fun e => e ▸ hc) (hx a), by simp⟩
  · exact ⟨fun a ha => hx a (by simpa using ha), by simp⟩
  · refine ⟨fun a ha => ?_, by simp⟩
    obtain ⟨b, _, rfl⟩ := List.mem_map.mp ha
    unfold swapL; split <;> simp
  · refine ⟨fun a ha => ?_, by have := (hstep_len x ([], [])).1; unfold halvedL; simp at this; omega⟩
    have hh : ∀ (y : List Nat) (sp : Option Nat), ∀ a ∈ halvF sp y, a ∈ y := by
      intro y
      induction y with
      | nil => intro sp a ha; exact ha
      | cons b r ih =>
        intro sp a ha
        unfold halvF at ha
        split at ha
        · exact .tail _ (ih _ a ha)
        · rcases List.mem_cons.mp ha with rfl | ha
          · exact .head _
          · exact .tail _ (ih _ a ha)
    have e : halvedL x = halvF none x := by
      unfold halvedL
      have := halved_eq x [] none
      simpa using this
    rw [e] at ha
    exact hx a (hh x none a ha)
  · exact ⟨hx, by omega⟩
/-- what is drawn -/
def DrawOk (one two : Nat) (dr : Draw) : Prop := dr.frm < 2 ∧ dr.kind < 8 ∧ (dr.c = one ∨ dr.c = two) ∧ dr.goal < 3
theorem stepGood {one two : Nat} {dr : Draw} (h : DrawOk one two dr) : StepGood one two (stepOf dr) := by
  obtain ⟨_, hk, hc, _⟩ := h
  have e : dr.kind = 0 ∨ dr.kind = 1 ∨ dr.kind = 2 ∨ dr.kind = 3 ∨ dr.kind = 4 ∨ dr.kind = 5 ∨ dr.kind = 6 ∨ dr.kind = 7 := lt8 (by omega)
  unfold StepGood stepOf codeOf
  rcases e with e | e | e | e | e | e | e | e <;> simp [e, natV, hc]
theorem wants_over {one two : Nat} {W W' : Nat → List (List Nat)} {drs : List Draw} {n : Nat} (hd : ∀ dr ∈ drs, DrawOk one two dr) (hW : ∀ i, i < 3 → ∀ x ∈ W i, Over one two x ∧ x.length ≤ n) :
    ∀ i, i < 3 → ∀ x ∈ wordsL one two W drs i, Over one two x ∧ x.length ≤ n + 2 := by
  intro i hi x hx
  unfold wordsL at hx
  rcases List.mem_append.mp hx with hx | hx
  · exact ⟨(hW i hi x hx).1, by have := (hW i hi x hx).2; omega⟩
  · obtain ⟨dr, hdr, hx⟩ := List.mem_flatMap.mp hx
    obtain ⟨y, hy, rfl⟩ := List.mem_map.mp hx
    obtain ⟨_, _, hc, hg⟩ := hd dr (List.mem_filter.mp hdr).1
    have := hW dr.goal hg y hy
    have hb := back_over (kind := dr.kind) hc this.1
    exact ⟨hb.1, by have := this.2; have := hb.2; omega⟩
theorem words_len {one two B : Nat} {W : Nat → List (List Nat)} {drs : List Draw} (hd : ∀ dr ∈ drs, DrawOk one two dr) (hB : ∀ i, i < 3 → (W i).length ≤ B) (i k : Nat) (hk : (drs.filter fun dr => dr.frm == i).length ≤ k) :
    (wordsL one two W drs i).length ≤ (W i).length + k * B := by
  unfold wordsL
  rw [List.length_append]
  have : ∀ l : List Draw, (∀ dr ∈ l, DrawOk one two dr) → (l.flatMap fun dr => (W dr.goal).map (backL one two dr.kind dr.c)).length ≤ l.length * B := by
    intro l
    induction l with
    | nil => intro _; simp
    | cons dr r ih =>
      intro h
      rw [List.flatMap_cons, List.length_append, List.length_map, List.length_cons, Nat.add_mul]
      have h1 := ih fun d hd => h d (.tail _ hd)
      have h2 := hB dr.goal (h dr (.head _)).2.2.2
      omega
  have h1 := this (drs.filter fun dr => dr.frm == i) fun dr h => hd dr (List.mem_filter.mp h).1
  have h2 : (drs.filter fun dr => dr.frm == i).length * B ≤ k * B := Nat.mul_le_mul_right _ hk
  omega
theorem forth_mono {one two : Nat} {sts : List Step} : ∀ {n place : Nat} {q : List Nat}, forthL one two sts n place q = true → forthL one two sts (n + 1) place q = true
  | 0, place, q, h => by
    have : place = 2 := by simpa [forthL] using h
    subst this; simp [forthL]
  | n + 1, place, q, h => by
    unfold forthL at h ⊢
    rw [Bool.or_eq_true] at h ⊢
    refine h.imp id fun h => ?_
    obtain ⟨st, hst, h⟩ := any_iff.mp h
    rw [Bool.and_eq_true, Bool.and_eq_true] at h
    obtain ⟨⟨h1, h2⟩, h3⟩ := h
    obtain ⟨r, hr, h4⟩ := any_iff.mp h3
    refine any_iff.mpr ⟨st, hst, ?_⟩
    rw [Bool.and_eq_true, Bool.and_eq_true]
    exact ⟨⟨h1, by simp⟩, any_iff.mpr ⟨r, hr, forth_mono h4⟩⟩
/-- the turns of the wants -/
inductive Turns (one two : Nat) (drs : List Draw) : Nat → (Nat → List (List Nat)) → Prop
  | zero {W : Nat → List (List Nat)} (h0 : W 0 = []) (h1 : W 1 = []) (h2 : W 2 = [[]]) : Turns one two drs 0 W
  | succ {n : Nat} {W W' : Nat → List (List Nat)} (t : Turns one two drs n W) (h : ∀ i, i < 3 → LeastOf (wordsL one two W drs i) (W' i)) : Turns one two drs (n + 1) W'
theorem turns_over {one two : Nat} {drs : List Draw} (hd : ∀ dr ∈ drs, DrawOk one two dr) {n : Nat} {W : Nat → List (List Nat)} (t : Turns one two drs n W) : ∀ i, i < 3 → ∀ x ∈ W i, Over one two x ∧ x.length ≤ 2 * n := by
  induction t with
  | zero h0 h1 h2 =>
    intro i hi x hx
    have : i = 0 ∨ i = 1 ∨ i = 2 := lt3 (by omega)
    rcases this with rfl | rfl | rfl
    · rw [h0] at hx; cases hx
    · rw [h1] at hx; cases hx
    · rw [h2] at hx; rw [List.mem_singleton.mp hx]; exact ⟨fun c h => (nomatch h), by simp⟩
  | succ t h ih =>
    intro i hi x hx
    exact wants_over (W' := fun _ => []) hd ih i hi x ((h i hi).1 x hx)
theorem turns_law {one two : Nat} (h12 : one ≠ two) {drs : List Draw} (hd : ∀ dr ∈ drs, DrawOk one two dr) {n : Nat} {W : Nat → List (List Nat)} (t : Turns one two drs n W) :
    ∀ place q, place < 3 → Over one two q → takesL (W place) q = forthL one two (drs.map stepOf) n place q := by
  induction t with
  | zero h0 h1 h2 =>
    intro i q hi _
    have : i = 0 ∨ i = 1 ∨ i = 2 := lt3 (by omega)
    rcases this with rfl | rfl | rfl
    · rw [h0]; rfl
    · rw [h1]; rfl
    · rw [h2]; simp [takesL, forthL]
  | @succ n W W' t h ih =>
    intro place q hp hq
    rw [(h place hp).2.2 q, Bool.eq_iff_iff]
    have hov := turns_over hd t
    have key : takesL (wordsL one two W drs place) q = true ↔ forthL one two (drs.map stepOf) n place q = true ∨ ∃ dr ∈ drs, dr.frm = place ∧ ∃ r ∈ doneL one two (natV (stepOf dr).deed) (stepOf dr).sg q, forthL one two (drs.map stepOf) n dr.goal r = true := by
      unfold takesL wordsL
      rw [List.any_append, Bool.or_eq_true, show (W place).any (fun x => x.isSublist q) = takesL (W place) q from rfl, ih place q hp hq]
      refine or_congr Iff.rfl ?_
      rw [any_iff]
      constructor
      · rintro ⟨y, hy, hs⟩
        obtain ⟨dr, hdr, hy⟩ := List.mem_flatMap.mp hy
        obtain ⟨x, hx, rfl⟩ := List.mem_map.mp hy
        obtain ⟨hm, hf⟩ := List.mem_filter.mp hdr
        obtain ⟨_, hk, hc, hg⟩ := hd dr hm
        obtain ⟨r, hr, hxr⟩ := any_iff.mp ((deed_iff h12 hk (hov dr.goal hg x hx).1 hq).mp hs)
        have hrq := (done_in (stepGood (hd dr hm)) hq hr).2
        refine ⟨dr, hm, by simpa using hf, r, hr, ?_⟩
        rw [← ih dr.goal r hg hrq]
        exact any_iff.mpr ⟨x, hx, hxr⟩
      · rintro ⟨dr, hm, hf, r, hr, hfo⟩
        obtain ⟨_, hk, hc, hg⟩ := hd dr hm
        have hrq := (done_in (stepGood (hd dr hm)) hq hr).2
        rw [← ih dr.goal r hg hrq] at hfo
        obtain ⟨x, hx, hxr⟩ := any_iff.mp hfo
        exact ⟨_, List.mem_flatMap.mpr ⟨dr, List.mem_filter.mpr ⟨hm, by simpa using hf⟩, List.mem_map.mpr ⟨x, hx, rfl⟩⟩, (deed_iff h12 hk (hov dr.goal hg x hx).1 hq).mpr (any_iff.mpr ⟨r, hr, hxr⟩)⟩
    rw [key]
    constructor
    · rintro (h | ⟨dr, hm, hf, r, hr, hfo⟩)
      · exact forth_mono h
      · unfold forthL
        rw [Bool.or_eq_true]
        refine .inr (any_iff.mpr ⟨stepOf dr, List.mem_map_of_mem hm, ?_⟩)
        rw [Bool.and_eq_true, Bool.and_eq_true]
        refine ⟨⟨by simpa [stepOf] using hf, ?_⟩, any_iff.mpr ⟨r, hr, hfo⟩⟩
        cases n with
        | zero => simpa [forthL, stepOf] using hfo
        | succ n => simp
    · intro h
      unfold forthL at h
      rw [Bool.or_eq_true] at h
      rcases h with h | h
      · have e : place = 2 := by simpa using h
        subst e
        refine .inl ?_
        cases n <;> simp [forthL]
      · obtain ⟨st, hst, h⟩ := any_iff.mp h
        obtain ⟨dr, hm, rfl⟩ := List.mem_map.mp hst
        rw [Bool.and_eq_true, Bool.and_eq_true] at h
        obtain ⟨⟨h1, _⟩, h3⟩ := h
        obtain ⟨r, hr, h4⟩ := any_iff.mp h3
        exact .inr ⟨dr, hm, by simpa [stepOf] using h1, r, hr, h4⟩
-- plain3
/-- a sign that stands in no operator -/
def PlainCh (c : Nat) : Prop := (EX.all fun k => decide (k.1.cps.toList[0]? ≠ some c ∧ k.1.cps.toList[1]? ≠ some c ∧ k.1.cps.toList[2]? ≠ some c)) = true
theorem hasL_iff (l : List Nat) : hasL l = true ↔ ∃ k ∈ EX, k.1.cps.toList = l := by
  unfold hasL kdpHas
  rw [List.any_eq_true]
  constructor
  · rintro ⟨k, hk, e⟩
    exact ⟨k, hk, by rw [of_decide_eq_true e]⟩
  · rintro ⟨k, hk, e⟩
    exact ⟨k, hk, decide_eq_true (by
      refine PySem.Str.ext' (Array.toList_inj.mp ?_)
      exact e)⟩
theorem hasL_plain {c : Nat} (hc : PlainCh c) {l : List Nat} (h : l[0]? = some c ∨ l[1]? = some c ∨ l[2]? = some c) : hasL l = false := by
  cases hh : hasL l with
  | false => rfl
  | true =>
    obtain ⟨k, hk, e⟩ := (hasL_iff l).mp hh
    have := of_decide_eq_true (List.all_eq_true.mp hc k hk)
    rw [e] at this
    rcases h with h | h | h
    · exact absurd h this.1
    · exact absurd h this.2.1
    · exact absurd h this.2.2
theorem size_one {c : Nat} {l : List Nat} (hc : PlainCh c) : sizeL (c :: l) = 1 := by
  unfold sizeL
  rw [hasL_plain hc (l := (c :: l).take 3) (.inl (by simp)), hasL_plain hc (l := (c :: l).take 2) (.inl (by simp))]
  rfl
theorem size_one2 {a c : Nat} {l : List Nat} (hc : PlainCh c) : sizeL (a :: c :: l) = 1 := by
  unfold sizeL
  rw [hasL_plain hc (l := (a :: c :: l).take 3) (.inr (.inl (by simp))), hasL_plain hc (l := (a :: c :: l).take 2) (.inr (.inl (by simp)))]
  rfl
theorem size_two {a b c : Nat} {l : List Nat} (hc : PlainCh c) (h2 : hasL [a, b] = true) : sizeL (a :: b :: c :: l) = 2 := by
  unfold sizeL
  rw [hasL_plain hc (l := (a :: b :: c :: l).take 3) (.inr (.inr (by simp))), show (a :: b :: c :: l).take 2 = [a, b] from rfl, h2]
  rfl
/-- the signs of the two letters do no harm -/
def PairOk (one two : Nat) : Prop := (∀ x ∈ [65, 66, 67, one, two], PlainCh x) ∧ [65, 66, 67, one, two].idxOf? one = some 3 ∧ [65, 66, 67, one, two].idxOf? two = some 4 ∧ one ≠ two ∧ one ≠ 46 ∧ two ≠ 46
def idxC (one c : Nat) : Nat := if c = one then 0 else 1
def codesL (one : Nat) (dr : Draw) : List Int := (256 + (dr.frm : Int)) :: ((codeOf dr.kind : Nat) : Int) :: ((if dr.kind < 4 then [256 + ((3 + idxC one dr.c : Nat) : Int)] else []) ++ [256 + (dr.goal : Int), 13])
section
variable {one two : Nat}
theorem row_plain (h : PairOk one two) {x i : Nat} {l : List Nat} {codes : List Int} (hi : [65, 66, 67, one, two].idxOf? x = some i) (hl : l ≠ []) (r : RowOk one two l codes) : RowOk one two (x :: l) ((256 + (i : Int)) :: codes) := by
  have hx := h.1 x (idx_mem hi)
  have hs : sizeL (x :: l) = 1 := size_one hx
  refine .other ?_ ?_ ?_ hi ?_
  · rw [hs]; exact hasL_plain hx (.inl rfl)
  · rw [hs]; rfl
  · rw [hs]; have := List.length_pos_iff.mpr hl; simp; omega
  · rw [hs]; exact r
theorem row_op1 {a c : Nat} {l : List Nat} {codes : List Int} (hc : PlainCh c) (h1 : hasL [a] = true) (r : RowOk one two (c :: l) codes) : RowOk one two (a :: c :: l) (kdpLook EX (S [a]) 0 :: codes) := by
  have hs : sizeL (a :: c :: l) = 1 := size_one2 hc
  have := RowOk.known (one := one) (two := two) (pg := a :: c :: l) (codes := codes) (by rw [hs]; exact h1) (by simp) (by rw [hs]; exact r)
  rw [hs] at this
  exact this
theorem row_op2 {a b c : Nat} {l : List Nat} {codes : List Int} (hc : PlainCh c) (h2 : hasL [a, b] = true) (r : RowOk one two (c :: l) codes) : RowOk one two (a :: b :: c :: l) (kdpLook EX (S [a, b]) 0 :: codes) := by
  have hs : sizeL (a :: b :: c :: l) = 2 := size_two hc h2
  have := RowOk.known (one := one) (two := two) (pg := a :: b :: c :: l) (codes := codes) (by rw [hs]; exact h2) (by simp) (by rw [hs]; exact r)
  rw [hs] at this
  exact this
theorem abc_idx {g : Nat} (hg : g < 3) : [65, 66, 67, one, two].idxOf? (65 + g) = some g := by
  have : g = 0 ∨ g = 1 ∨ g = 2 := lt3 (by omega)
  rcases this with rfl | rfl | rfl <;> simp [List.idxOf?_cons]
theorem sign_idx (h : PairOk one two) {c : Nat} (hc : c = one ∨ c = two) : [65, 66, 67, one, two].idxOf? c = some (3 + idxC one c) := by
  rcases hc with rfl | rfl
  · rw [h.2.1]; simp [idxC]
  · rw [h.2.2.1]; simp [idxC, Ne.symm h.2.2.2.1]
theorem row_semi {rest : List Nat} {codes : List Int} (hr : rest = [] ∨ ∃ c l, rest = c :: l ∧ PlainCh c) (r : RowOk one two rest codes) : RowOk one two (59 :: rest) (13 :: codes) := by
  rcases hr with rfl | ⟨c, l, rfl, hc⟩
  · cases r with
    | nil => exact RowOk.known (pg := [59]) (codes := []) (by decide +kernel) (by simp) (.nil)
    | known _ hp => exact absurd rfl hp
    | other _ _ hs => simp at hs
  · exact row_op1 hc (by decide +kernel) r
theorem row_line (h : PairOk one two) {dr : Draw} (hd : DrawOk one two dr) {rest : List Nat} {codes : List Int} (hr : rest = [] ∨ ∃ c l, rest = c :: l ∧ PlainCh c) (r : RowOk one two rest codes) :
    RowOk one two (lineL dr.frm dr.kind dr.c dr.goal ++ rest) (codesL one dr ++ codes) := by
  obtain ⟨hf, hk, hc, hg⟩ := hd
  have r2 : RowOk one two ((65 + dr.goal) :: 59 :: rest) ((256 + (dr.goal : Int)) :: 13 :: codes) := row_plain h (abc_idx hg) (by simp) (row_semi hr r)
  have pg : PlainCh (65 + dr.goal) := h.1 _ (idx_mem (abc_idx hg))
  have pc : PlainCh dr.c := h.1 _ (idx_mem (sign_idx h hc))
  have r3 : RowOk one two (dr.c :: (65 + dr.goal) :: 59 :: rest) ((256 + ((3 + idxC one dr.c : Nat) : Int)) :: (256 + (dr.goal : Int)) :: 13 :: codes) := row_plain h (sign_idx h hc) (by simp) r2
  have e : dr.kind = 0 ∨ dr.kind = 1 ∨ dr.kind = 2 ∨ dr.kind = 3 ∨ dr.kind = 4 ∨ dr.kind = 5 ∨ dr.kind = 6 ∨ dr.kind = 7 := lt8 (by omega)
  unfold lineL codesL deedL codeOf
  rcases e with e | e | e | e | e | e | e | e <;> rw [e]
  · exact row_plain h (abc_idx (by omega)) (by simp) (row_op1 (a := 62) pc (by decide +kernel) r3)
  · exact row_plain h (abc_idx (by omega)) (by simp) (row_op2 (a := 62) (b := 62) pc (by decide +kernel) r3)
  · exact row_plain h (abc_idx (by omega)) (by simp) (row_op1 (a := 60) pc (by decide +kernel) r3)
  · exact row_plain h (abc_idx (by omega)) (by simp) (row_op2 (a := 60) (b := 60) pc (by decide +kernel) r3)
  · exact row_plain h (abc_idx (by omega)) (by simp) (row_op1 (a := 126) pg (by decide +kernel) r2)
  · exact row_plain h (abc_idx (by omega)) (by simp) (row_op1 (a := 94) pg (by decide +kernel) r2)
  · exact row_plain h (abc_idx (by omega)) (by simp) (row_op2 (a := 42) (b := 42) pg (by decide +kernel) r2)
  · exact row_plain h (abc_idx (by omega)) (by simp) (row_op1 (a := 42) pg (by decide +kernel) r2)
def pageL (drs : List Draw) : List Nat := drs.flatMap fun dr => lineL dr.frm dr.kind dr.c dr.goal
def pageC (one : Nat) (drs : List Draw) : List Int := drs.flatMap (codesL one)
theorem row_page (h : PairOk one two) : ∀ {drs : List Draw}, (∀ dr ∈ drs, DrawOk one two dr) → RowOk one two (pageL drs) (pageC one drs)
  | [], _ => .nil
  | dr :: r, hd => by
    refine row_line h (hd _ (.head _)) ?_ (row_page h fun d m => hd d (.tail _ m))
    cases r with
    | nil => exact .inl rfl
    | cons d r =>
      have hf := (hd d (.tail _ (.head _))).1
      exact .inr ⟨65 + d.frm, _, rfl, h.1 _ (idx_mem (abc_idx (by omega)))⟩
theorem steps_line {dr : Draw} (hd : DrawOk one two dr) {deed : Nat} {codes : List Int} {sts : List Step} (h12 : one ≠ two) (r : StepsOk one two codes [] (codeOf dr.kind) sts) : StepsOk one two (codesL one dr ++ codes) [] deed (stepOf dr :: sts) := by
  obtain ⟨hf, hk, hc, hg⟩ := hd
  have hsg : [one, two][idxC one dr.c]? = some dr.c := by
    rcases hc with hc | hc
    · simp [idxC, hc]
    · simp [idxC, hc, Ne.symm h12]
  have hcode : codeOf dr.kind ≠ 0 ∧ codeOf dr.kind ≠ 13 ∧ codeOf dr.kind < 256 := by
    have e : dr.kind = 0 ∨ dr.kind = 1 ∨ dr.kind = 2 ∨ dr.kind = 3 ∨ dr.kind = 4 ∨ dr.kind = 5 ∨ dr.kind = 6 ∨ dr.kind = 7 := lt8 (by omega)
    unfold codeOf
    rcases e with e | e | e | e | e | e | e | e <;> rw [e] <;> decide
  unfold codesL stepOf
  refine .name (.deed hcode.1 hcode.2.1 hcode.2.2 ?_)
  by_cases hk4 : dr.kind < 4
  · rw [if_pos hk4, if_pos hk4]
    exact .name (.name (.sign hsg r))
  · rw [if_neg hk4, if_neg hk4]
    exact .name (.bare r)
theorem steps_page (h12 : one ≠ two) : ∀ {drs : List Draw} {deed : Nat}, (∀ dr ∈ drs, DrawOk one two dr) → StepsOk one two (pageC one drs) [] deed (drs.map stepOf)
  | [], _, _ => .nil
  | dr :: r, deed, hd => steps_line (hd _ (.head _)) h12 (steps_page h12 fun d m => hd d (.tail _ m))
theorem page_len : ∀ {drs : List Draw}, (∀ dr ∈ drs, DrawOk one two dr) → (pageL drs).length ≤ 6 * drs.length
  | [], _ => by simp [pageL]
  | dr :: r, hd => by
    have ih := page_len (drs := r) fun d m => hd d (.tail _ m)
    obtain ⟨hf, hk, hc, hg⟩ := hd dr (.head _)
    have hl : (lineL dr.frm dr.kind dr.c dr.goal).length ≤ 6 := by
      have e : dr.kind = 0 ∨ dr.kind = 1 ∨ dr.kind = 2 ∨ dr.kind = 3 ∨ dr.kind = 4 ∨ dr.kind = 5 ∨ dr.kind = 6 ∨ dr.kind = 7 := lt8 (by omega)
      unfold lineL deedL
      rcases e with e | e | e | e | e | e | e | e <;> rw [e] <;> simp
    unfold pageL at ih ⊢
    rw [List.flatMap_cons, List.length_append, List.length_cons]
    omega
end
theorem pair_ok {k : Nat} (hk : k < 5) : ∃ one two, [Str.ofString "xy", Str.ofString "x\n", Str.ofString "\n ", Str.ofString "\\$", Str.ofString "\"#"][k]? = some (S [one, two]) ∧ PairOk one two := by
  have : k = 0 ∨ k = 1 ∨ k = 2 ∨ k = 3 ∨ k = 4 := lt5 (by omega)
  rcases this with rfl | rfl | rfl | rfl | rfl
  · exact ⟨120, 121, by decide +kernel, by unfold PairOk PlainCh; decide +kernel⟩
  · exact ⟨120, 10, by decide +kernel, by unfold PairOk PlainCh; decide +kernel⟩
  · exact ⟨10, 32, by decide +kernel, by unfold PairOk PlainCh; decide +kernel⟩
  · exact ⟨92, 36, by decide +kernel, by unfold PairOk PlainCh; decide +kernel⟩
  · exact ⟨34, 35, by decide +kernel, by unfold PairOk PlainCh; decide +kernel⟩
-- joins
theorem texts_strs {vs : List Value} {ws : List (List Nat)} (T : TextsAre vs ws) : StrsAre vs (ws.map S) := by
  obtain ⟨l, rfl, rfl⟩ := T
  induction l with
  | nil => exact .nil
  | cons q r ih => exact .cons _ _ ih
theorem join_texts (l : List (List Nat)) : Txt.join (S []) (l.map S) = S l.flatten := by
  show Builtin.Str.glued (S []) (l.map S) = _
  rw [StrLaws.glued_eq_join]
  induction l with
  | nil => rfl
  | cons c r ih =>
    cases r with
    | nil => simp [Str.join]
    | cons c' r => simp only [List.map_cons, Str.join] at ih ⊢; rw [ih, S_add, S_add]; simp
theorem sum_texts : ∀ l : List (List Nat), ((l.map S).map (·.length)).sum = l.flatten.length
  | [] => rfl
  | c :: r => by
    have := sum_texts r
    simp only [List.map_cons, List.sum_cons, this, S_len, List.flatten_cons, List.length_append]
theorem TextsAre.snoc {vs : List Value} {ws : List (List Nat)} (T : TextsAre vs ws) {x : List Nat} {t : Tok} : TextsAre (vs ++ [.str (S x) t]) (ws ++ [x]) := by
  obtain ⟨l, rfl, rfl⟩ := T
  exact ⟨l ++ [(x, t)], by simp, by simp⟩
theorem TextsAre.nil : TextsAre [] [] := ⟨[], rfl, rfl⟩
/-- the ground is shrunk -/
theorem Fr.less {g g' h : Heap} {L : Addr} {m : Str → Option Value} (F : Fr g' L h m) (hg : ∀ b o, g.get? b = some o → g'.get? b = some o) (hs : g.objs.size ≤ g'.objs.size) : Fr g L h m := ⟨F.ns, fun b o e => F.keep b o (hg b o e), Nat.le_trans hs F.above⟩
-- after
def RangeO (o : Obj) : Prop := ∃ x l st : Int, o.data = .fields #[rawInt x, rawInt l, rawInt st]
section
variable {prog : Program} {w : World} {A : Around} {E : Value → Shared → Prop} {s : Shared} {env : Env} {h₀ : Heap} {Q : Flow → Shared → Prop} {target : Expr} {body orelse : List Stmt} {m : Str → Option Value} {nx : List (Addr × Obj)}
theorem iter_rangeO {n0 : Nat} {r : Addr} {b : Int} {t u v : Tok} (J : Nat → Inv) (hh : A.handled = none) (hr : IsRange s.heap r 0 b 1 t u v) (h0 : 0 ≤ b) (h1 : b < 2 ^ 62)
    (F : Fr h₀ env.locals s.heap m) (N : News h₀ env.locals s.heap nx) (hj : J 0 m nx) (htk : n0 ≤ s.toks)
    (turn : ∀ i : Nat, ∀ tk, (i : Int) < b → ∀ m₁ nx₁ h tk' own, (∀ q ∈ own, RangeO q.2) → n0 ≤ tk' → Apart nx₁ own → J i m₁ nx₁ → Fr h₀ env.locals h m₁ → News h₀ env.locals h (nx₁ ++ own) →
      wpAny (model prog w) A (assign target env (.int i tk)) (fun _ s₂ => wpAny (model prog w) A (execs body env) (fun f s₃ => TEnd h₀ env.locals (J (i + 1)) own { s with heap := h, toks := tk' } Q f s₃) E s₂) E { s with heap := h, toks := tk' })
    (done : DoneT n0 prog w A env h₀ orelse (J b.toNat) Q E s) (hE : PassesOwn (model prog w) A env E)
    (go : ∀ I : Addr, Goes prog w A target I b.toNat (fun i v => ∃ t, v = .int (0 + i * 1) t) (fun i h => IsRangeIter h I (0 + (i : Nat) * 1) ((b.toNat : Int) - (i : Nat)) 1)) :
    wpAny (model prog w) A (pyIter (.ref r)) (LoopX prog w A env target body orelse Q E) E s := by
  refine wpAny_pyIter_range hr (small_one (by omega) (by omega) (by omega) h1) ?_
  intros
  have W := Walks.range (prog := prog) (w := w) hh s.heap.objs.size 0 1 b.toNat
  have hsz : Builtin.Range.rangeSize 0 b 1 = b := by rw [rangeSize_one]; split <;> omega
  refine for_ruleO (n0 := n0) (OK := RangeO) J W (go _) ?_ ?_ ?_ ?_ ?_ (F.push _) (push_news N _) hj htk ?_ ?_ hE
  · intro hm
    exact absurd F.ns.lt ((List.mem_singleton.mp hm) ▸ Nat.lt_irrefl _)
  · intro b' hb
    rw [List.mem_singleton.mp hb]
    exact next_is_new F
  · intro q hq hm
    exact absurd (Heap.lt_size (N q hq).1) ((List.mem_singleton.mp hm) ▸ Nat.lt_irrefl _)
  · have e1 : (0 : Int) + ((0 : Nat) : Int) * 1 = 0 := by simp
    have e2 : (b.toNat : Int) - ((0 : Nat) : Int) = b := by omega
    show IsRangeIter _ _ (0 + ((0 : Nat) : Int) * 1) ((b.toNat : Int) - ((0 : Nat) : Int)) 1
    rw [e1, e2, hsz]
    exact Heap.get?_push_size _ rfl
  · intro i h st b' hb
    rw [List.mem_singleton.mp hb]; exact ⟨_, st, _, _, _, rfl⟩
  · rintro i v' m₁ nx₁ h tk own hi ⟨tt, rfl⟩ htk' hO
    have e : (0 : Int) + (i : Int) * 1 = i := by omega
    rw [e]
    exact turn i tt (by omega) m₁ nx₁ h tk own hO htk'
  · exact done
end
/-- three lists of texts in a list, in the ground or in the ledger -/
def WantsIn (g : Heap) (nx : List (Addr × Obj)) (a : Addr) (W : Nat → List (List Nat)) : Prop := ∃ a0 a1 a2, (g.IsList a #[.ref a0, .ref a1, .ref a2] ∨ ∃ o n, (a, o) ∈ nx ∧ o.cls = .type "list" ∧ o.data = .seq #[.ref a0, .ref a1, .ref a2] n) ∧ TextsIn g nx a0 (W 0) ∧ TextsIn g nx a1 (W 1) ∧ TextsIn g nx a2 (W 2)
def entryOf (g : Heap) (c : Addr) (o : Obj) : List (Addr × Obj) := if g.get? c = none then [(c, o)] else []
section
variable {g h h' : Heap} {L : Addr} {m : Str → Option Value} {nx nx' : List (Addr × Obj)}
theorem WantsIn.at {a : Addr} {W : Nat → List (List Nat)} (T : WantsIn g nx a W) (F : Fr g L h m) (N : News g L h nx') (hs : ∀ p ∈ nx, (∃ xs n, p.2.data = .seq xs n) → p ∈ nx') : WantsAt h a W := by
  obtain ⟨a0, a1, a2, hh, T0, T1, T2⟩ := T
  refine ⟨a0, a1, a2, ?_, T0.list F N hs, T1.list F N hs, T2.list F N hs⟩
  rcases hh with hh | ⟨o, n, hh, hc, hd⟩
  · exact hh.at fun o e => F.keep a o e
  · exact ⟨_, (N _ (hs _ hh ⟨_, _, hd⟩)).1, hc, n, hd⟩
theorem WantsIn.more {a : Addr} {W : Nat → List (List Nat)} (T : WantsIn g nx a W) (hs : ∀ p ∈ nx, (∃ xs n, p.2.data = .seq xs n) → p ∈ nx') : WantsIn g nx' a W := by
  obtain ⟨a0, a1, a2, hh, T0, T1, T2⟩ := T
  exact ⟨a0, a1, a2, hh.imp id fun ⟨o, n, hh, hc, hd⟩ => ⟨o, n, hs _ hh ⟨_, _, hd⟩, hc, hd⟩, T0.more hs, T1.more hs, T2.more hs⟩
theorem entryOf_ok {c : Addr} {o : Obj} (F : Fr g L h m) (ho : h.get? c = some o) (hL : c ≠ L) : News g L h (entryOf g c o) ∧ (g.get? c = some o ∨ (c, o) ∈ entryOf g c o) := by
  unfold entryOf
  cases hg : g.get? c with
  | some o' =>
    have := F.keep _ _ hg
    rw [ho] at this
    cases this
    rw [if_neg (fun e => by cases e)]
    exact ⟨News.nil, .inl rfl⟩
  | none =>
    rw [if_pos rfl]
    exact ⟨fun p hp => by rw [List.mem_singleton.mp hp]; exact ⟨ho, hL, hg⟩, .inr (.head _)⟩
theorem entryOf_mem {c : Addr} {o : Obj} : ∀ q ∈ entryOf g c o, q = (c, o) := fun q hq => by
  unfold entryOf at hq
  split at hq
  · exact List.mem_singleton.mp hq
  · cases hq
theorem locs_ne {c : Addr} {o : Obj} (F : Fr g L h m) (ho : h.get? c = some o) (hd : (∃ xs n, o.data = .seq xs n) ∨ ∃ vs, o.data = .fields vs) : c ≠ L := fun e => by
  obtain ⟨o', es, ep, ho', hd', _⟩ := F.ns
  rw [← e, ho] at ho'; cases ho'
  rcases hd with ⟨_, _, hd⟩ | ⟨_, hd⟩ <;> (rw [hd] at hd'; cases hd')
theorem textsIn_of {a : Addr} {ws : List (List Nat)} (F : Fr g L h m) (T : TextsAt h a ws) : ∃ o, (∃ xs n, o.data = .seq xs n) ∧ News g L h (entryOf g a o) ∧ TextsIn g (entryOf g a o) a ws := by
  obtain ⟨vs, ⟨o, ho, hc, n, hd⟩, tx⟩ := T
  obtain ⟨N, hh⟩ := entryOf_ok F ho (locs_ne F ho (.inl ⟨_, _, hd⟩))
  exact ⟨o, ⟨_, _, hd⟩, N, vs, tx, hh.imp (fun e => ⟨o, e, hc, n, hd⟩) fun hm => ⟨o, n, hm, hc, hd⟩⟩
/-- behind a turn of the wants -/
theorem after_wants {b : Addr} {W' : Nat → List (List Nat)} (F : Fr g L h m) (N : News g L h nx) (k : Keep1 h h') (TO : TabOk h') (WA : WantsAt h' b W') (hg : g.get? 134 = none) (hL : L ≠ 134) :
    Fr g L h' m ∧ ∃ nN, News g L h' (nN ++ nx.filter fun p => decide (p.1 ≠ 134)) ∧ (∀ q ∈ nN, q.1 = 134 ∨ (∃ xs n, q.2.data = .seq xs n) ∨ ∃ vs t, q.2.data = .fields vs ∧ vs[1]? = some (.str lamQual t)) ∧ TabIn g nN ∧ WantsIn g nN b W' := by
  have hg' : ∀ b o, g.get? b = some o → b ≠ 134 := fun b o e q => by rw [q, hg] at e; cases e
  have F' : Fr g L h' m := by
    obtain ⟨o, es, ep, ho, hd, hk, hf⟩ := F.ns
    exact ⟨⟨o, es, ep, k _ _ hL ho, hd, hk, hf⟩, fun b o e => k b o (hg' b o e) (F.keep b o e), F.above⟩
  refine ⟨F', ?_⟩
  obtain ⟨ps, hps, ht, hc⟩ := TO
  obtain ⟨a0, a1, a2, ⟨o, ho, hoc, n, hod⟩, T0, T1, T2⟩ := WA
  obtain ⟨o0, d0, N0, I0⟩ := textsIn_of F' T0
  obtain ⟨o1, d1, N1, I1⟩ := textsIn_of F' T1
  obtain ⟨o2, d2, N2, I2⟩ := textsIn_of F' T2
  obtain ⟨Nb, hb⟩ := entryOf_ok F' ho (locs_ne F' ho (.inl ⟨_, _, hod⟩))
  obtain ⟨nt, Nt, dt, It⟩ : ∃ nt, News g L h' nt ∧ (∀ q ∈ nt, q.1 = 134 ∨ ∃ vs t, q.2.data = .fields vs ∧ vs[1]? = some (.str lamQual t)) ∧ TabIn g nt := by
    have N134 : News g L h' [(134, tabObj ps)] := fun p hp => by rw [List.mem_singleton.mp hp]; exact ⟨hps, Ne.symm hL, hg⟩
    rcases hc with hc | ⟨c', oc, vs, t, e1, e2, e3, e4, e5⟩
    · exact ⟨_, N134, fun q hq => by rw [List.mem_singleton.mp hq]; exact .inl rfl, ps, .head _, ht, .inl hc⟩
    · obtain ⟨Nc, hc⟩ := entryOf_ok F' e3 (locs_ne F' e3 (.inr ⟨_, e4⟩))
      refine ⟨_, N134.append Nc, fun q hq => ?_, ps, .head _, ht, .inr ⟨c', e1, e2, oc, vs, t, hc.imp id fun hm => List.mem_append_right _ hm, e4, e5⟩⟩
      rcases List.mem_append.mp hq with hq | hq
      · rw [List.mem_singleton.mp hq]; exact .inl rfl
      · rw [entryOf_mem q hq]; exact .inr ⟨_, _, e4, e5⟩
  have Nold : News g L h' (nx.filter fun p => decide (p.1 ≠ 134)) := fun p hp => by
    obtain ⟨hp, hc⟩ := List.mem_filter.mp hp
    exact ⟨k _ _ (by simpa using hc) (N p hp).1, (N p hp).2⟩
  refine ⟨nt ++ (entryOf g b o ++ (entryOf g a0 o0 ++ (entryOf g a1 o1 ++ entryOf g a2 o2))), (Nt.append (Nb.append (N0.append (N1.append N2)))).append Nold, fun q hq => ?_, It.more fun p hp _ => List.mem_append_left _ hp, a0, a1, a2, ?_, ?_, ?_, ?_⟩
  · rcases List.mem_append.mp hq with hq | hq
    · exact (dt q hq).imp id .inr
    rcases List.mem_append.mp hq with hq | hq
    · rw [entryOf_mem q hq]; exact .inr (.inl ⟨_, _, hod⟩)
    rcases List.mem_append.mp hq with hq | hq
    · rw [entryOf_mem q hq]; exact .inr (.inl d0)
    rcases List.mem_append.mp hq with hq | hq
    · rw [entryOf_mem q hq]; exact .inr (.inl d1)
    · rw [entryOf_mem q hq]; exact .inr (.inl d2)
  · exact hb.imp (fun e => ⟨o, e, hoc, n, hod⟩) fun hm => ⟨o, n, List.mem_append_right _ (List.mem_append_left _ hm), hoc, hod⟩
  · exact I0.more fun p hp _ => List.mem_append_right _ (List.mem_append_right _ (List.mem_append_left _ hp))
  · exact I1.more fun p hp _ => List.mem_append_right _ (List.mem_append_right _ (List.mem_append_right _ (List.mem_append_left _ hp)))
  · exact I2.more fun p hp _ => List.mem_append_right _ (List.mem_append_right _ (List.mem_append_right _ (List.mem_append_right _ hp)))
theorem range_apart {q r : Addr × Obj} (N : News g L h nx) (hq : q ∈ nx) (hr : r ∈ nx) (h134 : r.1 ≠ 134) (hd : q.1 = 134 ∨ (∃ xs n, q.2.data = .seq xs n) ∨ ∃ vs t, q.2.data = .fields vs ∧ vs[1]? = some (.str lamQual t)) (ho : RangeO r.2) : q.1 ≠ r.1 := fun e => by
  obtain ⟨x, l, st, hr'⟩ := ho
  have e1 := (N q hq).1
  have e2 := (N r hr).1
  rw [← e, e1] at e2
  have e3 := Option.some.inj e2
  rcases hd with hd | ⟨_, _, hd⟩ | ⟨vs, t, hd, hv⟩
  · exact h134 (e.symm.trans hd)
  · rw [e3, hr'] at hd; cases hd
  · rw [e3, hr'] at hd; cases hd; cases hv
end
/-- an object that stands in the ground or in the ledger -/
def Stands (g : Heap) (nx : List (Addr × Obj)) (a : Addr) (o : Obj) : Prop := g.get? a = some o ∨ (a, o) ∈ nx
def StepSt (g : Heap) (nx : List (Addr × Obj)) (k : Nat) (v : Value) (st : Step) : Prop := ∃ T o vs n, v = .ref T ∧ Stands g nx T o ∧ o.cls = .type "tuple" ∧ o.data = .seq vs n ∧ TupOf v st vs k
section
variable {g h h' : Heap} {L : Addr} {m : Str → Option Value} {nx nx' : List (Addr × Obj)}
theorem Stands.at {a : Addr} {o : Obj} (S : Stands g nx a o) (F : Fr g L h m) (N : News g L h nx') (hs : (a, o) ∈ nx → (a, o) ∈ nx') : h.get? a = some o := by
  rcases S with S | S
  · exact F.keep _ _ S
  · exact (N _ (hs S)).1
theorem Stands.more {a : Addr} {o : Obj} (S : Stands g nx a o) (hs : (a, o) ∈ nx → (a, o) ∈ nx') : Stands g nx' a o := S.imp id hs
theorem list_stands {a : Addr} {vs : Array Value} (F : Fr g L h m) (hl : h.IsList a vs) : ∃ o n, o.cls = .type "list" ∧ o.data = .seq vs n ∧ News g L h (entryOf g a o) ∧ Stands g (entryOf g a o) a o := by
  obtain ⟨o, ho, hc, n, hd⟩ := hl
  obtain ⟨N, hh⟩ := entryOf_ok F ho (locs_ne F ho (.inl ⟨_, _, hd⟩))
  exact ⟨o, n, hc, hd, N, hh⟩
theorem steps_stand {k : Nat} (F : Fr g L h m) : ∀ {vs : List Value} {sts : List Step}, Paired (StepAt h k) vs sts → ∃ nS, News g L h nS ∧ (∀ q ∈ nS, ∃ xs n, q.2.data = .seq xs n) ∧ Paired (StepSt g nS k) vs sts
  | _, _, .nil => ⟨[], News.nil, (fun _ h => nomatch h), .nil⟩
  | _, _, .cons hr P => by
    obtain ⟨nS, N, hd, P'⟩ := steps_stand F P
    obtain ⟨T, vs, e, ⟨o, ho, hc, n, hod⟩, ht⟩ := hr
    obtain ⟨N1, hh⟩ := entryOf_ok F ho (locs_ne F ho (.inl ⟨_, _, hod⟩))
    refine ⟨entryOf g T o ++ nS, N1.append N, fun q hq => ?_, .cons ⟨T, o, vs, n, e, hh.imp id fun h => List.mem_append_left _ h, hc, hod, ht⟩ (P'.mono fun v st ⟨T, o, vs, n, e, hS, r⟩ => ⟨T, o, vs, n, e, hS.imp id fun h => List.mem_append_right _ h, r⟩)⟩
    rcases List.mem_append.mp hq with hq | hq
    · rw [entryOf_mem q hq]; exact ⟨_, _, hod⟩
    · exact hd q hq
theorem StepSt.at {k : Nat} {v : Value} {st : Step} (S : StepSt g nx k v st) (F : Fr g L h m) (N : News g L h nx') (hs : ∀ q ∈ nx, (∃ xs n, q.2.data = .seq xs n) → q ∈ nx') : StepAt h k v st := by
  obtain ⟨T, o, vs, n, e, hS, hc, hd, ht⟩ := S
  exact ⟨T, vs, e, ⟨o, hS.at F N fun hm => hs _ hm ⟨_, _, hd⟩, hc, n, hd⟩, ht⟩
end
theorem pageC_len {one two : Nat} : ∀ {drs : List Draw}, (pageC one drs).length ≤ 5 * drs.length
  | [] => Nat.le_refl _
  | dr :: r => by
    have h := pageC_len (one := one) (two := two) (drs := r)
    have e : pageC one (dr :: r) = codesL one dr ++ pageC one r := rfl
    have h2 : (codesL one dr).length ≤ 5 := by
      unfold codesL
      split <;> simp
    rw [e, List.length_append, List.length_cons]
    omega
theorem frm_two {drs : List Draw} {n : Nat} (h : drs.map (·.frm) = [0, 1, 0, 1].take n) (i : Nat) : (drs.filter fun dr => dr.frm == i).length ≤ 2 := by
  have e : (drs.filter fun dr => dr.frm == i).length = ((drs.map (·.frm)).filter (· == i)).length := by
    rw [List.filter_map, List.length_map]; rfl
  rw [e, h]
  refine Nat.le_trans ((List.take_sublist n [0, 1, 0, 1]).filter _).length_le ?_
  by_cases h0 : i = 0
  · subst h0; decide
  by_cases h1 : i = 1
  · subst h1; decide
  · have a0 : (0 == i) = false := by simpa using Ne.symm h0
    have a1 : (1 == i) = false := by simpa using Ne.symm h1
    simp [List.filter, a0, a1]
theorem turns_len {one two : Nat} {drs : List Draw} (hd : ∀ dr ∈ drs, DrawOk one two dr) (hf : ∀ i, (drs.filter fun dr => dr.frm == i).length ≤ 2) {n : Nat} {W : Nat → List (List Nat)} (t : Turns one two drs n W) :
    ∀ i, i < 3 → (W i).length ≤ 2 * 3 ^ n ∧ (wordsL one two W drs i).length ≤ 2 * 3 ^ n := by
  induction t with
  | @zero W h0 h1 h2 =>
    have hB : ∀ i, i < 3 → (W i).length ≤ 1 := fun i hi => by
      have : i = 0 ∨ i = 1 ∨ i = 2 := lt3 (by omega)
      rcases this with rfl | rfl | rfl
      · rw [h0]; decide
      · rw [h1]; decide
      · rw [h2]; decide
    intro i hi
    refine ⟨Nat.le_trans (hB i hi) (by decide), ?_⟩
    have : i = 0 ∨ i = 1 ∨ i = 2 := lt3 (by omega)
    rcases this with rfl | rfl | rfl
    · have := words_len hd hB 0 2 (hf 0); rw [h0] at this; simpa using this
    · have := words_len hd hB 1 2 (hf 1); rw [h1] at this; simpa using this
    · have e : drs.filter (fun dr => dr.frm == 2) = [] := List.filter_eq_nil_iff.mpr fun dr h => by have := (hd dr h).1; simp; omega
      have := words_len hd hB 2 0 (by rw [e]; exact Nat.le_refl _)
      rw [h2] at this
      simp at this; omega
  | @succ n W W' t h ih =>
    have hB : ∀ i, i < 3 → (W' i).length ≤ 2 * 3 ^ n := fun i hi => Nat.le_trans (h i hi).2.1 (ih i hi).2
    intro i hi
    have h1 := words_len hd hB i 2 (hf i)
    have h2 := hB i hi
    rw [Nat.pow_succ]
    omega
theorem turns_small {one two : Nat} {drs : List Draw} (hd : ∀ dr ∈ drs, DrawOk one two dr) (hf : ∀ i, (drs.filter fun dr => dr.frm == i).length ≤ 2) {n : Nat} {W : Nat → List (List Nat)} (t : Turns one two drs n W) (hn : n < 4) :
    ∀ i, i < 3 → (wordsL one two W drs i).length < 64 := fun i hi => by
  have h := (turns_len hd hf t i hi).2
  have e : n = 0 ∨ n = 1 ∨ n = 2 ∨ n = 3 := lt4 (by omega)
  rcases e with rfl | rfl | rfl | rfl <;> omega
/-- what holds ahead of a turn of the wants -/
def WLoop (g : Heap) (one two : Nat) (drs : List Draw) (K : List (Addr × Obj)) (D5 sa : Addr) (i : Nat) : Inv := fun m nx =>
  (∀ q ∈ K, q.1 ≠ 134 → q ∈ nx) ∧ m (Str.ofString "drawn") = some (.ref D5) ∧ m (Str.ofString "steps") = some (.ref sa) ∧ ∃ wa W, m (Str.ofString "wants") = some (.ref wa) ∧ Turns one two drs i W ∧ TabIn g nx ∧ WantsIn g nx wa W
theorem WLoop.start {g h : Heap} {L : Addr} {m : Str → Option Value} {one two : Nat} {drs : List Draw} {nx : List (Addr × Obj)} {D5 sa wa : Addr} {W : Nat → List (List Nat)} (_ : Fr g L h m) (e1 : m (Str.ofString "drawn") = some (.ref D5)) (e2 : m (Str.ofString "steps") = some (.ref sa)) (e3 : m (Str.ofString "wants") = some (.ref wa)) (t : Turns one two drs 0 W) (hT : TabIn g nx) (hW : WantsIn g nx wa W) :
    WLoop g one two drs nx D5 sa 0 m nx := ⟨fun _ h _ => h, e1, e2, wa, W, e3, t, hT, hW⟩
theorem texts_empty {t : Tok} : TextsAre [.str (Str.ofString "") t] [[]] := ⟨[([], t)], by rw [show Str.ofString "" = S [] by decide +kernel]; rfl, rfl⟩
theorem item_two {w : World} {A : Around} {E : Value → Shared → Prop} {s : Shared} {value slice : Expr} {one two : Nat} {z : Int} {t u : Tok} {Q : Value → Shared → Prop} (hz : ∃ k : Nat, z = k ∧ k < 2)
    (h : ∀ c, c = one ∨ c = two → Q (.str (S [c]) s.toks) { s with toks := s.toks + 1 })
    (hs : subscripted slice false (.str (S [one, two]) t) (.int z u) = operate [.str (S [one, two]) t, .int z u] (getItem (.str (S [one, two]) t) (.int z u)) := by with_unfolding_all rfl)
    (ht : ∀ r, letTemporaryGo value (.str (S [one, two]) t) r = pure () := by intro _; with_unfolding_all rfl) :
    wpAny (model prog w) A (subscriptTail value slice (.str (S [one, two]) t) (.int z u)) Q E s := by
  obtain ⟨k, rfl, hk⟩ := hz
  have : k = 0 ∨ k = 1 := lt2 (by omega)
  rcases this with rfl | rfl
  · exact item_S (i := 0) (c := one) rfl (by simp) (h one (.inl rfl)) hs ht
  · exact item_S (i := 1) (c := two) rfl (by simp) (h two (.inr rfl)) hs ht
theorem walks_lt {prog : Program} {w : World} {A : Around} {I : Addr} {fp wr : List Addr} {n : Nat} {P : Nat → Value → Prop} {St : Nat → Heap → Prop} (W : Walks prog w A I fp wr n P St) : Walks prog w A I fp wr n (fun i v => i < n ∧ P i v) St where
  sub := W.sub
  frame := W.frame
  item := fun i s Q E hi st hQ => W.item i s Q E hi st fun v h' tk hp => hQ v h' tk ⟨hi, hp⟩
  done := W.done
  self := W.self
theorem signs_all {one two : Nat} : ∀ {vs ys : List Value}, Paired (fun _ y : Value => ∃ c ty, y = .str (S [c]) ty ∧ (c = one ∨ c = two)) vs ys → ∃ q : List Nat, q.length = vs.length ∧ (∀ c ∈ q, c = one ∨ c = two) ∧ StrsAre ys (q.map fun c => S [c])
  | _, _, .nil => ⟨[], rfl, (fun _ h => nomatch h), .nil⟩
  | _, _, .cons ⟨c, ty, e, hc⟩ P => by
    obtain ⟨q, hl, hq, hs⟩ := signs_all P
    refine ⟨c :: q, by simp [hl], fun d hd => ?_, by rw [e]; exact .cons _ _ hs⟩
    rcases List.mem_cons.mp hd with rfl | hd
    · exact hc
    · exact hq d hd
theorem after_forth {g h h' : Heap} {L : Addr} {m : Str → Option Value} {nx : List (Addr × Obj)} (F : Fr g L h m) (N : News g L h nx) (k : KeepS [L] h h') : Fr g L h' m ∧ News g L h' nx := by
  obtain ⟨fe', _, F', N'⟩ := after_call (fs := []) (g := g) (fe := []) (rest := nx) ⟨fun _ _ e => e, fun _ _ e _ => e, (fun _ h => nomatch h), rfl⟩ F N ⟨(fun _ h => nomatch h), (fun _ h => nomatch h)⟩ (fun _ _ h => nomatch h) (fun h => nomatch h) k
  exact ⟨F', fun p hp => N' p (List.mem_append_right _ hp)⟩
theorem below_one {A : Around} {base h : Heap} {L a : Addr} {m : Str → Option Value} {name : Str} {scope : Scope} {cd : Value} (K : Below A base [] base) (F : Fr base L h m) (hk : scope.kind = .function := by rfl) :
    Below (A.deeper (envOfC name scope L a cd)) base [envOfC name scope L a cd] h ∧ KtsDicts (fsOf [envOfC name scope L a cd]) h := by
  obtain ⟨o, es, ep, ho, hd, _⟩ := F.ns
  refine ⟨⟨Around.frames_deeper K.stack, F.keep, by show scope.kind ≠ .module; rw [hk]; decide, ⟨L, o, rfl, fr_none F, ho, fun vs e => by rw [hd] at e; cases e⟩, trivial⟩, fun b hb => ?_⟩
  rcases List.mem_singleton.mp (show b ∈ [L] from hb) with rfl
  exact ⟨o, es, ep, ho, hd⟩
def QLoop (K : List (Addr × Obj)) (sa wa : Addr) (q : List Nat) (t : Tok) (_ : Nat) : Inv := fun m nx => (∀ p ∈ K, p ∈ nx) ∧ m (Str.ofString "steps") = some (.ref sa) ∧ m (Str.ofString "wants") = some (.ref wa) ∧ m (Str.ofString "queue") = some (.str (S q) t)
theorem QLoop.start {m : Str → Option Value} {nx : List (Addr × Obj)} {sa wa : Addr} {q : List Nat} {t : Tok} (e1 : m (Str.ofString "steps") = some (.ref sa)) (e2 : m (Str.ofString "wants") = some (.ref wa)) (e3 : m (Str.ofString "queue") = some (.str (S q) t)) : QLoop nx sa wa q t 0 m nx := ⟨fun _ h => h, e1, e2, e3⟩
def SLoop (K : List (Addr × Obj)) (sa wa : Addr) (q : List Nat) (t : Tok) (v : Value) (_ : Nat) : Inv := fun m nx => (∀ p ∈ K, p ∈ nx) ∧ m (Str.ofString "steps") = some (.ref sa) ∧ m (Str.ofString "wants") = some (.ref wa) ∧ m (Str.ofString "queue") = some (.str (S q) t) ∧ m (Str.ofString "spot") = some v
theorem SLoop.start {m : Str → Option Value} {nx : List (Addr × Obj)} {sa wa : Addr} {q : List Nat} {t : Tok} {v : Value} (e1 : m (Str.ofString "steps") = some (.ref sa)) (e2 : m (Str.ofString "wants") = some (.ref wa)) (e3 : m (Str.ofString "queue") = some (.str (S q) t)) (e4 : m (Str.ofString "spot") = some v) : SLoop nx sa wa q t v 0 m nx := ⟨fun _ h => h, e1, e2, e3, e4⟩
theorem forth_law {w : World} {p : Program} {loose : List Str} {mg mb : Str → Option Value} {mean : ExcName → Option Value} {base : Heap} {one two ra N L a : Nat} {name : Str} {scope : Scope} {cd : Value} {m : Str → Option Value} {vs : List Value} {sts : List Step} {E : Value → Shared → Prop} {s : Shared} {Q : Value → Shared → Prop} {place : Nat} {q : List Nat} {t1 tp tq tl : Tok}
    (h12 : one ≠ two) (h1 : one ≠ 46) (h2 : two ≠ 46) (XB : (hd.heap_39 w.params).In base) (TB : Top p loose mean mg mb base) (hgood : ∀ st ∈ sts, StepGood one two st) (hsl : sts.length ≤ 100) (KB : Below callerA base [] base) (F : Fr base L s.heap m)
    (hl : s.heap.IsList ra vs.toArray) (hP : Paired (StepAt s.heap N) vs sts) (hN : N ≤ s.toks) (hq : q.length ≤ 4) (hqs : ∀ x ∈ q, x = one ∨ x = two)
    (k : ∀ h' tk, KeepS [L] s.heap h' → Q (.bool (forthL one two sts 4 place q)) { s with heap := h', toks := tk }) (hk : scope.kind = .function := by rfl) :
    wpAny (model prog w) (callerA.deeper (envOfC name scope L a cd)) (call (.ref 113) [.ref ra, .str (S [one, two]) t1, .int (natV place) tp, .str (S q) tq, .int 4 tl] []) Q E s := by
  obtain ⟨KB1, KD1⟩ := below_one (name := name) (scope := scope) (a := a) (cd := cd) KB F hk
  exact forth_ok (N := N) h12 h1 h2 XB TB hgood hsl 4 (outer := [envOfC name scope L a cd]) KB1 KD1 (by decide) hl hP hN (by omega) hqs k
/-- where the law ends -/
def LawEnd (g : Heap) (L : Addr) (s s' : Shared) : Prop := ∃ h' tk m nx ps, s' = { s with heap := h', toks := tk } ∧ Fr g L h' m ∧ News g L h' nx ∧ (134, tabObj ps) ∈ nx
theorem with_q {M : Model} {A A' : Around} {g : Heap} {env : Env} {body : List Stmt} {s : Shared} {Q0 : Flow → Shared → Prop} {E0 : Value → Shared → Prop} (_ : Below A' g [] g) (hE : PassesOwn M A env E0)
    (hq : ∀ s', LawEnd g env.locals s s' → Q0 (.ret (.bool true)) s') (h : ∀ Q E, PassesOwn M A env E → (∀ s', LawEnd g env.locals s s' → Q (.ret (.bool true)) s') → wpAny M A (execs body env) Q E s) : wpAny M A (execs body env) Q0 E0 s := h Q0 E0 hE hq
-- law
local macro_rules | `(tactic| walk_at "my stepA") => `(tactic| ((fail_if_success (with_reducible show wpAny _ _ (exec (Stmt.Assign _ (Expr.ListComp _ _ _ _) _) _) _ _ _)); (fail_if_success (with_reducible show wpAny _ _ (eval (Expr.Name (Str.ofString "cells") _) _) _ _ _)); (fail_if_success (with_reducible show wpAny _ _ (eval (Expr.Name (Str.ofString "letters") _) _) _ _ _)); walk_at "my stepW"))
theorem fmod_nat (a : Int) (n : Nat) (hn : 0 < n) : ∃ k : Nat, a.fmod (n : Int) = k ∧ k < n := by
  have h1 := Int.fmod_nonneg_of_pos a (show (0 : Int) < n by omega)
  have h2 := Int.fmod_lt_of_pos a (show (0 : Int) < n by omega)
  exact ⟨(a.fmod n).toNat, (Int.toNat_of_nonneg h1).symm, by omega⟩
def given5 (script : List Int) : List Int := (script.take 5).map fun k => k.fmod (10 ^ Int.toNat 6)
def cells5 (script : List Int) : List Int := given5 script ++ [22, 43, 21, 2, 17].drop (given5 script).length
theorem cells5_len (script : List Int) : (cells5 script).length = 5 := by
  unfold cells5 given5
  rw [List.length_append, List.length_map, List.length_take, List.length_drop]
  simp; omega
def DrawIn (nx : List (Addr × Obj)) (v : Value) (dr : Draw) : Prop := ∃ T ta tk tc tg, v = .ref T ∧ (T, tupObj #[.int (natV dr.frm) ta, .int (natV dr.kind) tk, .str (S [dr.c]) tc, .int (natV dr.goal) tg]) ∈ nx
def DrawnJ (one two : Nat) (i : Nat) (ys : List Value) (nx : List (Addr × Obj)) : Prop := ∃ drs : List Draw, drs.length = i ∧ Paired (DrawIn nx) ys drs ∧ (∀ dr ∈ drs, DrawOk one two dr) ∧ drs.map (·.frm) = [0, 1, 0, 1].take i
def PageJ (drs : List Draw) (i : Nat) (ys : List Value) (_ : List (Addr × Obj)) : Prop := TextsAre ys ((drs.take i).map fun dr => lineL dr.frm dr.kind dr.c dr.goal)
theorem law_walk : PySem.Challenge.rw_ti0015_01.Holds := hd (by
  k_go0
  (all_goals try k_fold)
  rename Top topProg _ _ _ _ _ => TB
  rename 134 < _ => hl0
  rename Below callerA _ _ _ => KB
  rename CodeHd _ _ _ => CB
  rename (hd.heap_39 _).In _ => XB
  rename (_ : Obj).data = Data.cell (bindC _ _ _ (Str.ofString "cells")) => hdC
  rename (_ : Obj).data = Data.cell (bindC _ _ _ (Str.ofString "letters")) => hdL
  refine with_q KB PassesOwn.leaving ?hq (fun Q E hE hQ => ?_)
  case hq =>
    rintro s' ⟨h', tk, m, nx, ps, rfl, F, N, hps⟩
    exact ⟨⟨.inl ⟨_, _, _, rfl, (fun _ => rfl), .bool true, by with_unfolding_all rfl, fun _ => ⟨List.nodup_nil, fun _ hm => (nomatch hm)⟩⟩, fun b o e => F.keep b o e, rfl, by assumption⟩, ⟨_, (News.get N hps)⟩, trivial⟩
  repeat' walk_at "my stepW"
  walk_at "my step"
  repeat' walk_at "my stepW"
  refine kba_turn (value' := PySem.Expr.Name (PySem.Str.ofString "_") ⟨0, 0, 0, 0⟩) (fun _ => rfl) ?_
  (rename News _ _ _ _ => N); (rename Fr _ _ _ _ => F)
  refine kmk_slice_ints F N (kso_isList N (.head _) rfl) (.int _ _) .none (.cons _ _ (.cons _ _ (.cons _ _ (.cons _ _ (.cons _ _ .nil))))) (kmk_from (.cons _ _ (.cons _ _ (.cons _ _ (.cons _ _ (.cons _ _ .nil))))) (by simp; try omega)) rfl (fun D ws h' F2 N2 hlt hI2 _ _ => ?_) (by with_unfolding_all rfl) (by intro _; with_unfolding_all rfl) (by rw [sizeLine_eq]; simp)
  clear F N
  rename IntsAre _ (List.map _ (List.take 5 _)) => hIg
  refine kmk_add_ints F2 N2 (kso_isList N2 (.tail _ (.tail _ (.head _))) rfl) (kso_isList N2 (.head _) rfl) hIg hI2 (fun D3 us h3 F3 N3 hlt3 hI3 => ?_) (by rw [sizeLine_eq]; simp; omega)
  clear F2 N2
  repeat' walk_at "my stepW"
  refine storeC F3 N3 rfl (by walk_at "my own1") hdC (fun h4 oC nx4 hoC F4 N4 hC4 sub4 => ?_)
  have hD4 := sub4 _ (.head _) (news_ne N3 (.head _) (by walk_at "my own1") (by rw [hdC]; exact fun e => by cases e))
  have h134 := sub4 (134, tabObj #[]) (by walk_at "my own1") (Nat.ne_of_lt (Nat.lt_succ_of_lt hl0))
  have hcL := sub4 _ (List.Mem.tail _ (List.Mem.tail _ (List.Mem.tail _ (List.Mem.tail _ (List.Mem.tail _ (List.Mem.head _)))))) (Nat.succ_ne_self _)
  clear F3 N3
  repeat' ((fail_if_success (with_reducible show wpAny _ _ (eval (Expr.Name (Str.ofString "cells") _) _) _ _ _)); walk_at "my stepW")
  (rename News _ _ _ _ => N5); (rename Fr _ _ _ _ => F5)
  refine wpAny_Name (wpAny_loadName_cell ?q1 ?q2 ?q3 ⟨_, (N5 _ (.tail _ hC4)).1, hoC⟩ ?_) (by decide)
  (case q1 => rfl)
  (case q2 => rfl)
  (case q3 => rfl)
  repeat' walk_at "my stepW"
  refine sumK rfl F5 N5 (kso_isList N5 (.tail _ hD4) rfl) hI3 (fun h6 tk6 t6 F6 N6 => ?_)
  clear F5 N5
  repeat' walk_at "my stepW"
  refine KTb.item_tup (ws := [Str.ofString "xy", Str.ofString "x\n", Str.ofString "\n ", Str.ofString "\\$", Str.ofString "\"#"]) ⟨_, (N6 _ (.head _)).1, rfl, _, rfl⟩ (.cons _ _ (.cons _ _ (.cons _ _ (.cons _ _ (.cons _ _ .nil))))) (Int.fmod_nonneg_of_pos _ (by decide)) (Int.fmod_lt_of_pos _ (by decide)) (Int.lt_trans (Int.fmod_lt_of_pos _ (by decide)) (by decide)) (fun t7 hlt7 => ?_)
  obtain ⟨one, two, hpair, PO⟩ := pair_ok hlt7
  have htxt : ∀ X : Nat, [Str.ofString "xy", Str.ofString "x\n", Str.ofString "\n ", Str.ofString "\\$", Str.ofString "\"#"][X]? = some (S [one, two]) → List.getD [Str.ofString "xy", Str.ofString "x\n", Str.ofString "\n ", Str.ofString "\\$", Str.ofString "\"#"] X PySem.Str.empty = S [one, two] := fun X h => by rw [List.getD_eq_getElem?_getD, h]; rfl
  rw [htxt _ hpair]
  clear hpair htxt hlt7
  repeat' walk_at "my stepW"
  refine storeC F6 N6 rfl (.tail _ hcL) hdL (fun h7 oL nx7 hoL F7 N7 hL7 sub7 => ?_)
  have hC7 := sub7 _ (.tail _ hC4) (Nat.ne_of_lt (Nat.lt_succ_self _))
  have hD7 := sub7 _ (.tail _ hD4) (news_ne N6 (.tail _ hD4) (.tail _ hcL) (by rw [hdL]; exact fun e => by cases e))
  have h137 := sub7 _ (.tail _ h134) (Nat.ne_of_lt (Nat.lt_succ_of_lt (Nat.lt_succ_of_lt hl0)))
  clear F6 N6 sub7 sub4
  repeat' walk_at "my stepA"
  refine assign_comp_tup (DrawnJ one two) rfl rfl (by decide) rfl (by decide) rfl rfl ?_
  repeat' walk_at "my stepA"
  (rename News _ _ _ _ => N8); (rename Fr _ _ _ _ => F8)
  refine wpAny_Name (wpAny_loadName_cell ?q1 ?q2 ?q3 ⟨_, (N8 _ hC7).1, hoC⟩ ?_) (by decide)
  (case q1 => rfl)
  (case q2 => rfl)
  (case q3 => rfl)
  repeat' walk_at "my stepA"
  refine kmk_slice_ints F8 N8 (kso_isList N8 hD7 rfl) .none (.int _ _) hI3 (kmk_upto hI3 (by decide)) rfl (fun D4 ws4 h9 F9 N9 hlt9 hI4 hlen4 hle4 => ?_) (by with_unfolding_all rfl) (by intro _; with_unfolding_all rfl) (by rw [sizeLine_eq, List.size_toArray, hI3.length]; simp; omega)
  clear F8 N8
  repeat' ((fail_if_success (with_reducible show wpAny _ _ (PySem.call (Value.type _) _ _) _ _ _)); walk_at "my stepA")
  have hD4lt := Heap.lt_size (N9 _ (.head _)).1
  refine call_enumerate_list (kso_isList N9 (.head _) rfl) fun h10 he hit hsz10 hk10 => ?_
  refine wpAny_pyIter_enum he ?_
  have F10 := F9.after hk10
  have hLlt := F9.ns.lt
  have hL10 := hk10 _ _ (N9 _ (.tail _ hL7)).1
  have hcLlt := Heap.lt_size (N9 _ (.tail _ hL7)).1
  refine ⟨_, _, _, _, _, _, _, rfl, WalksX.of (WalksT.enumerate rfl _ _ D4 (Nat.succ_ne_self _) (Nat.ne_of_lt (Nat.lt_succ_of_lt hD4lt)) (Nat.ne_of_lt hD4lt) ws4.toArray), ?dsz, ⟨⟨_, he⟩, hit, ⟨_, hk10 _ _ (N9 _ (.head _)).1, rfl, _, rfl⟩⟩, ?dfp, ?dI, ⟨[], rfl, .nil, (fun _ h => nomatch h), rfl⟩, ?dturn, _, F10.ns, ?dLw, ?dfin⟩
  case dsz => rw [sizeLine_eq, List.size_toArray, hI4.length]; exact Nat.le_trans hle4 (by simp; omega)
  case dfp =>
    intro b hb
    rw [hsz10]
    rcases List.mem_cons.mp hb with rfl | hb
    · exact Nat.lt_succ_self _
    · rcases List.mem_cons.mp hb with rfl | hb
      · exact Nat.lt_succ_of_lt (Nat.lt_succ_self _)
      · rw [List.mem_singleton.mp hb]; exact Nat.lt_succ_of_lt (Nat.lt_succ_of_lt hD4lt)
  case dI =>
    rintro i h ⟨⟨_, h1⟩, ⟨o2, h2, _⟩, ⟨o3, h3, _⟩⟩ b hb
    rcases List.mem_cons.mp hb with rfl | hb
    · exact ⟨_, h1⟩
    · rcases List.mem_cons.mp hb with rfl | hb
      · exact ⟨_, h2⟩
      · rw [List.mem_singleton.mp hb]; exact ⟨_, h3⟩
  case dLw =>
    intro hm
    rcases List.mem_cons.mp hm with e | hm
    · exact absurd e (Nat.ne_of_lt (Nat.lt_succ_of_lt hLlt))
    · exact absurd (List.mem_singleton.mp hm) (Nat.ne_of_lt hLlt)
  case dturn =>
    rintro i T vals C m₃ s₃ ys nx own hi ⟨t0, x, hx, rfl⟩ ⟨drs, hdl, hP, hok, hfr⟩ ap F N hT
    obtain ⟨c, tcc, rfl, hc⟩ := hI4.at i x (by simpa using hx)
    refine kcp_assign rfl hT (lookup_relabel_local rfl) (lookup_relabel_local rfl) rfl F.ns fun h12 tk12 hns12 hk12 => ?_
    have F12 : Fr _ C h12 _ := ⟨hns12, fun b o e => hk12 b o (Nat.ne_of_lt (Nat.lt_of_lt_of_le (Heap.lt_size e) F.above)) (F.keep b o e), F.above⟩
    have N12 : News _ C h12 (nx ++ own) := fun p hp => ⟨hk12 _ _ (N p hp).2.1 (N p hp).1, (N p hp).2⟩
    clear F N
    have hcc := (⟨_, F12.keep _ _ (hideAll_get _ hL10 (fun hm => by
      rcases List.mem_cons.mp hm with e | hm
      · exact absurd e (Nat.ne_of_lt (Nat.lt_succ_of_lt hcLlt))
      · exact absurd (List.mem_singleton.mp hm) (Nat.ne_of_lt hcLlt))), hoL⟩ : h12.IsCell _ (some (.str (S [one, two]) t7)))
    walk_at "my stepN"
    refine wpAny_Name (wpAny_loadName_local (v := .int (i : Nat) t0) ?q1 ?q2 hns12 ?q3 ?_) (by decide)
    (case q3 => rfl)
    (case q1 => rfl)
    (case q2 => exact lookup_relabel_local rfl)
    walk_at "my stepN"
    refine wpAny_Name (wpAny_loadName_local (v := .int c tcc) ?q1 ?q2 hns12 ?q3 ?_) (by decide)
    (case q3 => rfl)
    (case q1 => rfl)
    (case q2 => exact lookup_relabel_local rfl)
    walk_at "my stepN"
    refine wpAny_Name (wpAny_loadName_cell ?q1 ?q2 ?q3 hcc ?_) (by decide)
    (case q1 => rfl)
    (case q2 => rfl)
    (case q3 => rfl)
    walk_at "my stepN"
    refine wpAny_Name (wpAny_loadName_local (v := .int c tcc) ?q1 ?q2 hns12 ?q3 ?_) (by decide)
    (case q3 => rfl)
    (case q1 => rfl)
    (case q2 => exact lookup_relabel_local rfl)
    repeat' ((fail_if_success (with_reducible show wpAny _ _ (eval (Expr.Name _ _) _) _ _ _)); (fail_if_success (with_reducible show wpAny _ _ (subscriptTail _ _ (Value.str _ _) (Value.int _ _)) _ _ _)); walk_at "my step")
    obtain ⟨k2, hk2, hk2'⟩ := fmod_nat (c.fdiv 8) 2 (by decide)
    obtain ⟨k8, hk8, hk8'⟩ := fmod_nat c 8 (by decide)
    obtain ⟨k3, hk3, hk3'⟩ := fmod_nat (c.fdiv 16) 3 (by decide)
    have hki : ((i : Nat) : Int).fmod 2 = ((i % 2 : Nat) : Int) := by rw [Int.fmod_eq_emod_of_nonneg _ (by decide)]; omega
    obtain ⟨cc, hcs, hc12⟩ : ∃ cc, [one, two][k2]? = some cc ∧ (cc = one ∨ cc = two) := by
      have : k2 = 0 ∨ k2 = 1 := lt2 (by omega)
      rcases this with rfl | rfl
      · exact ⟨one, rfl, .inl rfl⟩
      · exact ⟨two, rfl, .inr rfl⟩
    rw [show (c.fdiv 8).fmod 2 = (k2 : Int) from hk2]
    refine item_S hcs (by simp) ?_
    walk_at "my stepN"
    refine wpAny_Name (wpAny_loadName_local (v := .int c tcc) ?q1 ?q2 hns12 ?q3 ?_) (by decide)
    (case q3 => rfl)
    (case q1 => rfl)
    (case q2 => exact lookup_relabel_local rfl)
    repeat' walk_at "my stepW"
    (rename News (hideAll _ _) C _ _ => N15); (rename Fr (hideAll _ _) C _ _ => F15)
    have hi4 : i < 4 := by
      have h1 := hI4.length
      have h2 : i < ws4.length := by simpa using hi
      rw [h1, List.length_take] at h2
      exact Nat.lt_of_lt_of_le h2 (Nat.min_le_left _ _)
    rw [show ((i : Nat) : Int).fmod 2 = natV (i % 2) from hki, show c.fmod 8 = natV k8 from hk8, show (c.fdiv 16).fmod 3 = natV k3 from hk3] at N15
    rename (∀ q ∈ nx ++ own, q.1 < _) => hlt15
    refine CEnd.cons F15 N15 hlt15 ap ⟨drs ++ [⟨i % 2, k8, cc, k3⟩], by simp [hdl], (hP.mono fun v dr q => ?c5).snoc ⟨_, _, _, _, _, rfl, .head _⟩, ?c6, ?c7⟩
    case c5 => obtain ⟨T', a, b, e, f, g, hm⟩ := q; exact ⟨T', a, b, e, f, g, .tail _ hm⟩
    case c6 =>
      intro dr hdr
      rcases List.mem_append.mp hdr with hdr | hdr
      · exact hok dr hdr
      · rw [List.mem_singleton.mp hdr]
        exact ⟨by show i % 2 < 2; omega, hk8', hc12, hk3'⟩
    case c7 =>
      rw [List.map_append, hfr]
      have : i = 0 ∨ i = 1 ∨ i = 2 ∨ i = 3 := lt4 (by omega)
      rcases this with rfl | rfl | rfl | rfl <;> rfl
  case dfin =>
    intro D5 h11 tk11 ys nx hD5 hl5 hJ5 hyl5 hnx5 hns5 hk5
    obtain ⟨oD, nD, hcD, hdD, F11, N11⟩ := comp_ledger (nx7 := nx7) F9 (fun q hq => N9 q (.tail _ hq)) hk10 hD5 hl5 hnx5 hns5 hk5 (fun b hb => by
      rcases List.mem_cons.mp hb with rfl | hb
      · exact Nat.le_succ _
      · rw [List.mem_singleton.mp hb]; exact Nat.le_refl _)
    obtain ⟨drs, hdl, hP, hdok, hfrm⟩ := hJ5
    clear F9 N9 F10 hns5 hk5 hnx5 hl5
    repeat' walk_at "my stepA"
    refine comp_tup (PageJ drs) rfl (by decide) rfl (by decide) ?_
    repeat' walk_at "my stepA"
    (rename News _ _ _ _ => N12); (rename Fr _ _ _ _ => F12)
    have hnxlt : ∀ q ∈ nx, q.1 < _ := fun q hq => Heap.lt_size (N12 q (.tail _ (List.mem_append_left _ hq))).1
    have hD5lt := Heap.lt_size (N12 _ (.head _)).1
    refine wpAny_pyIter_list ⟨_, (N12 _ (.head _)).1, hcD, nD, hdD⟩ ⟨_, _, _, _, _, _, _, rfl, WalksX.list rfl _ D5 (Nat.ne_of_lt hD5lt) ys.toArray (fun i vals => ∃ dr ta tk tc tg, drs[i]? = some dr ∧ vals = #[.int (natV dr.frm) ta, .int (natV dr.kind) tk, .str (S [dr.c]) tc, .int (natV dr.goal) tg]) (fun h => ∀ q ∈ nx, h.get? q.1 = some q.2)
      (fun h h' t kk q hq => kk _ _ (Nat.ne_of_lt (hnxlt q hq)) (t q hq)) ?hT (nx.map (·.1)) (fun h h' t kk q hq => kk _ (List.mem_map_of_mem hq) _ (t q hq)), ?ssz, ?sst, ?sfp, ?sI, ⟨[], rfl, rfl⟩, ?sturn, ?sfin⟩
    case hT =>
      intro i v h hv ht
      obtain ⟨dr, hdr, T, ta, tk, tc, tg, rfl, hm⟩ := paired_get hP (by simpa using hv)
      exact ⟨T, _, rfl, Nat.ne_of_lt (hnxlt _ hm), ⟨_, ht _ hm, rfl, _, rfl⟩, dr, ta, tk, tc, tg, hdr, rfl⟩
    case ssz => rw [sizeLine_eq, List.size_toArray, hP.length, hdl, List.size_toArray, hI4.length]; exact Nat.le_trans hle4 (by simp; omega)
    case sst => exact ⟨⟨_, Heap.get?_push_size _ rfl, rfl, rfl⟩, ⟨_, Heap.get?_push_of_some _ (N12 _ (.head _)).1, hcD, nD, hdD⟩, fun q hq => Heap.get?_push_of_some _ (N12 q (.tail _ (List.mem_append_left _ hq))).1⟩
    case sfp =>
      intro b hb
      rw [Heap.size_push]
      rcases List.mem_cons.mp hb with rfl | hb
      · exact Nat.lt_succ_self _
      rcases List.mem_cons.mp hb with rfl | hb
      · exact Nat.lt_succ_of_lt hD5lt
      obtain ⟨q, hq, rfl⟩ := List.mem_map.mp hb
      exact Nat.lt_succ_of_lt (hnxlt q hq)
    case sI =>
      rintro i h ⟨⟨o1, h1, _⟩, ⟨o2, h2, _⟩, h3⟩ b hb
      rcases List.mem_cons.mp hb with rfl | hb
      · exact ⟨_, h1⟩
      rcases List.mem_cons.mp hb with rfl | hb
      · exact ⟨_, h2⟩
      obtain ⟨q, hq, rfl⟩ := List.mem_map.mp hb
      exact ⟨_, h3 q hq⟩
    case sturn =>
      rintro i T vals C m₃ s₃ ys' nx' own hi ⟨dr, ta, tk, tc, tg, hdr, rfl⟩ hJ ap F N hT
      have F1 : Fr _ C s₃.heap m₃ := Fr.less F (fun b o e => hideAll_get _ (Heap.get?_push_of_some _ (F12.keep b o e)) (fun hm => absurd (List.mem_singleton.mp hm) (Nat.ne_of_lt (Heap.lt_size (F12.keep b o e))))) (Nat.le_trans (Nat.le_trans F12.above (Nat.le_of_lt F12.ns.lt)) (Nat.le_trans (Nat.le_succ _) (Nat.le_of_eq ((Heap.size_push ..).symm.trans (hideAll_size _ _).symm))))
      refine comp_assign4 rfl hT (lookup_relabel_local rfl) (lookup_relabel_local rfl) (lookup_relabel_local rfl) (lookup_relabel_local rfl) rfl F.ns fun h12 tk12 hns12 hk12 => ?_
      have hgC : ∀ {g : Heap} {b : Addr} {o : Obj} {hh : Heap} {mm}, Fr g C hh mm → g.get? b = some o → b ≠ C := fun F' e => Nat.ne_of_lt (Nat.lt_of_lt_of_le (Heap.lt_size e) F'.above)
      have hNC := fun p hp => (N p hp).2.1
      have F2 : Fr _ C h12 _ := ⟨hns12, fun b o e => hk12 b o (hgC F1 e) (F1.keep b o e), F1.above⟩
      have F3 : Fr _ C h12 _ := ⟨hns12, fun b o e => hk12 b o (hgC F e) (F.keep b o e), F.above⟩
      have N3 : News _ C h12 (nx' ++ own) := fun p hp => ⟨hk12 _ _ (N p hp).2.1 (N p hp).1, (N p hp).2⟩
      obtain ⟨hdok1, hdok2, hdok3, hdok4⟩ := hdok dr (List.mem_of_getElem? hdr)
      have hF : ∀ h', Keep h12 h' → Fr _ C h' _ ∧ News _ C h' (nx' ++ own) := fun h' kk => ⟨F3.after kk, News.keepsAll N3 kk⟩
      have T0 := topRead_of TB
      clear F N N3 F3 F1 F12 N12
      walk_at "my stepN"
      walk_at "my step"
      walk_at "my stepN"
      refine wpAny_Name (wpAny_loadName_local (v := .int (natV dr.frm) ta) ?q1 ?q2 hns12 ?q3 ?_) (by decide)
      (case q3 => rfl)
      (case q1 => rfl)
      (case q2 => exact lookup_relabel_local rfl)
      walk_at "my stepN"
      refine wpAny_Name (wpAny_loadName_local (v := .int (natV dr.kind) tk) ?q1 ?q2 hns12 ?q3 ?_) (by decide)
      (case q3 => rfl)
      (case q1 => rfl)
      (case q2 => exact lookup_relabel_local rfl)
      walk_at "my stepN"
      refine wpAny_Name (wpAny_loadName_local (v := .str (S [dr.c]) tc) ?q1 ?q2 hns12 ?q3 ?_) (by decide)
      (case q3 => rfl)
      (case q1 => rfl)
      (case q2 => exact lookup_relabel_local rfl)
      walk_at "my stepN"
      refine wpAny_Name (wpAny_loadName_local (v := .int (natV dr.goal) tg) ?q1 ?q2 hns12 ?q3 ?_) (by decide)
      (case q3 => rfl)
      (case q1 => rfl)
      (case q2 => exact lookup_relabel_local rfl)
      repeat' walk_at "my step"
      refine line_ok ⟨XB.keeps F2.keep, T0.keeps F2.keep⟩ (by decide) (show dr.frm < 3 by omega) hdok2 hdok4 (fun h' t tk' kk => ?_)
      refine ⟨h', _, _, own, [], rfl, (hF h' kk).1, fun p hp => (hF h' kk).2 p (List.mem_append_right _ hp), (fun _ h => nomatch h), fun _ h => h, Apart.nil, ?sj⟩
      case sj =>
        unfold PageJ
        rw [List.take_add_one, hdr, Option.toList_some, List.map_append]
        exact TextsAre.snoc hJ
    case sfin =>
      intro D h13 tk13 zs nx13 hD13 hl13 hJ13 hyl13 _ hk13
      have hkk : ∀ b o, h11.get? b = some o → h13.get? b = some o := fun b o e => hk13 b o (fun hm => absurd (List.mem_singleton.mp hm) (Nat.ne_of_lt (Heap.lt_size e))) (Heap.get?_push_of_some _ e)
      have F13 := F12.after hkk
      have N13 := News.keepsAll N12 hkk
      clear F12 N12
      repeat' walk_at "my stepA"
      have hys4 : drs.length ≤ 4 := by
        have h1 : ws4.length ≤ 4 := by rw [hI4.length, List.length_take]; exact Nat.min_le_left _ _
        have h2 : drs.length = ws4.length := by rw [hdl]; exact List.size_toArray ..
        omega
      have hpl := page_len hdok
      have hJ14 : TextsAre zs (drs.map fun dr => lineL dr.frm dr.kind dr.c dr.goal) := by
        have e : drs.take ys.toArray.size = drs := List.take_of_length_le (by rw [List.size_toArray, hP.length]; exact Nat.le_refl _)
        unfold PageJ at hJ13
        rw [e] at hJ13; exact hJ13
      rw [show Str.ofString "" = S [] by decide +kernel]
      refine join_listW hl13 (texts_strs hJ14) (by decide) ?jw (fun t14 tk14 => ?_)
      case jw =>
        rw [sum_texts, List.length_map, List.length_map, show (List.map (fun dr => lineL dr.frm dr.kind dr.c dr.goal) drs).flatten = pageL drs from rfl]
        omega
      rw [join_texts, show (List.map (fun dr => lineL dr.frm dr.kind dr.c dr.goal) drs).flatten = pageL drs from rfl]
      clear hJ13 hJ14 hl13 hyl13 hD13 hk13 hkk
      repeat' walk_at "my stepA"
      (rename News _ _ _ _ => N15); (rename Fr _ _ _ _ => F15)
      refine wpAny_Name (wpAny_loadName_cell ?q1 ?q2 ?q3 ⟨_, (N15 _ (.tail _ (List.mem_append_right _ hL7))).1, hoL⟩ ?_) (by decide)
      (case q1 => rfl)
      (case q2 => rfl)
      (case q3 => rfl)
      repeat' walk_at "my stepA"
      have T0 := topRead_of TB
      refine row_ok ⟨XB.keeps F15.keep, T0.keeps F15.keep⟩ (by decide) (by omega) (row_page PO hdok) (fun h16 ra rvs tk16 k16 hra hri => ?_)
      have F16 := F15.after k16
      have N16 := News.keepsAll N15 k16
      clear F15 N15
      repeat' walk_at "my stepA"
      refine wpAny_Name (wpAny_loadName_cell ?q4 ?q5 ?q6 ⟨_, (N16 _ (.tail _ (List.mem_append_right _ hL7))).1, hoL⟩ ?_) (by decide)
      (case q4 => rfl)
      (case q5 => rfl)
      (case q6 => rfl)
      repeat' walk_at "my stepA"
      have hcl := pageC_len (one := one) (two := two) (drs := drs)
      refine steps_ok ⟨XB.keeps F16.keep, T0.keeps F16.keep⟩ (by decide) (by omega) hra hri (steps_page PO.2.2.2.1 hdok) (fun h17 sa svs tk17 k17 hsa hsP => ?_)
      have F17 := F16.after k17
      have N17 := News.keepsAll N16 k17
      clear F16 N16 hra hri k16 k17
      obtain ⟨oS, nS, hcS, hdS, NS1, hSS⟩ := list_stands F17 hsa
      obtain ⟨nxS, NS2, hdS2, hsP2⟩ := steps_stand F17 hsP
      replace N17 := (NS1.append NS2).append N17
      clear NS1 NS2 hsa hsP
      repeat' walk_at "my stepA"
      (rename News _ _ _ _ => N18); (rename Fr _ _ _ _ => F18)
      rename_i b0 _ _ b1 _ _ b2 _ _ wa0 _ _ _
      have hnews7 := fun (q : Addr × Obj) (h : q ∈ nx7) => N18 q (.tail _ (.tail _ (.tail _ (.tail _ (List.mem_append_right _ (.tail _ (List.mem_append_right _ h)))))))
      have h134T : ∀ (T : Addr) (vs : Array Value), (T, tupObj vs) ∈ nx → T ≠ 134 := fun T vs hq => news_ne N18 (.tail _ (.tail _ (.tail _ (.tail _ (List.mem_append_right _ (.tail _ (List.mem_append_left _ hq))))))) (.tail _ (.tail _ (.tail _ (.tail _ (List.mem_append_right _ (.tail _ (List.mem_append_right _ h137))))))) (fun e => by cases e)
      have hD3T : D3 ≠ 134 := news_ne N18 (.tail _ (.tail _ (.tail _ (.tail _ (List.mem_append_right _ (.tail _ (List.mem_append_right _ hD7))))))) (.tail _ (.tail _ (.tail _ (.tail _ (List.mem_append_right _ (.tail _ (List.mem_append_right _ h137))))))) (fun e => by cases e)
      have hS134 : ∀ q ∈ entryOf _ sa oS ++ nxS, q.1 ≠ 134 := fun q hq => news_ne N18 (show (q.1, q.2) ∈ _ from .tail _ (.tail _ (.tail _ (.tail _ (List.mem_append_left _ hq))))) (.tail _ (.tail _ (.tail _ (.tail _ (List.mem_append_right _ (.tail _ (List.mem_append_right _ h137))))))) (fun e => by
        rcases List.mem_append.mp hq with hq | hq
        · rw [entryOf_mem q hq] at e
          rw [show ((sa, oS) : Addr × Obj).2 = oS from rfl, hdS] at e; cases e
        · obtain ⟨xs, n, hd⟩ := hdS2 q hq
          rw [hd] at e; cases e)
      have hg134 := (hnews7 _ h137).2.2
      have hL134 := (hnews7 _ h137).2.1
      refine wpAny_For ?_ (by intro _; rfl)
      refine wpAny_with_toks (n := tk17) (by show tk17 ≤ (_ : Nat); dsimp only; omega) ?_
      repeat' walk_at "my stepA"
      (rename tk17 ≤ _ => htkA)
      dsimp only at htkA
      repeat' walk_at "my stepA"
      (rename News _ _ _ _ => N19); (rename Fr _ _ _ _ => F19)
      refine iter_rangeO (n0 := tk17) (WLoop _ one two drs _ D5 sa) rfl (by assumption) (by omega) (by omega) F19 N19 (WLoop.start (W := fun i => if i = 2 then [[]] else []) F19 rfl rfl rfl (.zero rfl rfl rfl) ?wt ?ww) ?wk ?wturn ?wdone hE (fun I => goes_name)
      case wt => exact ⟨#[], .tail _ (.tail _ (.tail _ (.tail _ (List.mem_append_right _ (.tail _ (List.mem_append_right _ h137)))))), trivial, .inl rfl⟩
      case ww => exact ⟨b0, b1, b2, .inr ⟨_, _, .head _, rfl, rfl⟩, ⟨[], TextsAre.nil, .inr ⟨_, _, .tail _ (.tail _ (.tail _ (.head _))), rfl, rfl⟩⟩, ⟨[], TextsAre.nil, .inr ⟨_, _, .tail _ (.tail _ (.head _)), rfl, rfl⟩⟩, ⟨_, texts_empty, .inr ⟨_, _, .tail _ (.head _), rfl, rfl⟩⟩⟩
      case wk => show tk17 ≤ (_ : Nat); first | exact htkA | (dsimp only; omega)
      case wturn =>
        rintro i ti hi m₁ nx₁ h tk own hO htk ap ⟨hK, e1, e2, wa, W, e3, tr, hTab, hWn⟩ F N
        replace F := reveal3 F e1 e2 e3
        have hi4 : i < 4 := by omega
        have hne : ∀ q ∈ nx ++ nx7, q.1 ≠ 134 → q ∈ nx₁ := fun q hq hn => hK q (.tail _ (.tail _ (.tail _ (.tail _ (List.mem_append_right _ (.tail _ hq)))))) hn
        have hkD : (D5, oD) ∈ nx₁ := hK _ (.tail _ (.tail _ (.tail _ (.tail _ (List.mem_append_right _ (.head _)))))) (news_ne N19 (.tail _ (.tail _ (.tail _ (.tail _ (List.mem_append_right _ (.head _)))))) (.tail _ (.tail _ (.tail _ (.tail _ (List.mem_append_right _ (.tail _ (List.mem_append_right _ h137))))))) (by rw [hdD]; exact fun e => by cases e))
        clear F19 N19
        repeat' walk_at "my stepA"
        (rename News _ _ _ _ => N20); (rename Fr _ _ _ _ => F20)
        refine wpAny_Name (wpAny_loadName_cell ?q1 ?q2 ?q3 ⟨_, (N20 _ (List.mem_append_left _ (hne _ (List.mem_append_right _ hL7) (Nat.ne_of_gt (Nat.lt_succ_of_lt (Nat.lt_succ_of_lt hl0)))))).1, hoL⟩ ?_) (by decide)
        (case q1 => rfl)
        (case q2 => rfl)
        (case q3 => rfl)
        repeat' walk_at "my stepA"
        refine wants_ok ⟨XB, TB, CB, hg134⟩ F20.keep (TabIn.ok (hTab.more fun p hp _ => List.mem_append_left _ hp) F20 N20) (by decide) PO.2.2.2.1 (fun dr h => ⟨(hdok dr h).2.1, (hdok dr h).2.2.2⟩) (fun j hj x hx => ⟨Nat.le_trans (turns_over hdok tr j hj x hx).2 (by omega), (turns_over hdok tr j hj x hx).1⟩) (turns_small hdok (frm_two hfrm) tr hi4)
          (fun j hj x hx => ⟨Nat.le_trans (wants_over (W' := fun _ => []) hdok (turns_over hdok tr) j hj x hx).2 (by omega), fun c hc => ((wants_over (W' := fun _ => []) hdok (turns_over hdok tr) j hj x hx).1 c hc).elim (fun e => e ▸ PO.2.2.2.2.1) (fun e => e ▸ PO.2.2.2.2.2)⟩)
          ⟨_, (N20 _ (List.mem_append_left _ hkD)).1, hcD, nD, hdD⟩ (hP.mono fun v dr ⟨T, ta, tk, tc, tg, e, hm⟩ => ⟨T, ta, tk, tc, tg, e, _, (N20 _ (List.mem_append_left _ (hne _ (List.mem_append_left _ hm) (h134T _ _ hm)))).1, rfl, _, rfl⟩) (hWn.at F20 N20 fun p hp _ => List.mem_append_left _ hp) (fun h21 b W' tk21 k21 TO21 WA21 LO21 => ?_)
        obtain ⟨F21, nN, N21, hdN, TN, WN⟩ := after_wants F20 N20 k21 TO21 WA21 hg134 (Ne.symm hL134)
        clear F20 N20
        repeat' walk_at "my stepA"
        (rename News _ _ _ _ => N22); (rename Fr _ _ _ _ => F22)
        have idX := hTab
        obtain ⟨ps, hps, _⟩ := idX
        have ho134 : ∀ r ∈ own, r.1 ≠ 134 := fun r hr e => ap _ hps r hr e.symm
        have hor : ∀ r ∈ own, r ∈ nN ++ (nx₁ ++ own).filter fun p => decide (p.1 ≠ 134) := fun r hr => List.mem_append_right _ (List.mem_filter.mpr ⟨List.mem_append_right _ hr, decide_eq_true (ho134 r hr)⟩)
        refine TEnd.mk (nx := nN ++ nx₁.filter fun p => decide (p.1 ≠ 134)) F22 N22 (fun q hq => ?_) hor (fun q hq r hr => ?_) ⟨fun q hq hn => List.mem_append_right _ (List.mem_filter.mpr ⟨hK q hq hn, decide_eq_true hn⟩), rfl, rfl, b, W', rfl, .succ tr LO21, TN.more (fun p hp _ => List.mem_append_left _ hp), WN.more (fun p hp _ => List.mem_append_left _ hp)⟩
        · rcases List.mem_append.mp hq with hq | hq
          · exact List.mem_append_left _ hq
          · obtain ⟨hq, hc⟩ := List.mem_filter.mp hq
            exact List.mem_append_right _ (List.mem_filter.mpr ⟨List.mem_append_left _ hq, hc⟩)
        · rcases List.mem_append.mp hq with hq | hq
          · exact range_apart N22 (List.mem_append_left _ hq) (hor r hr) (ho134 r hr) (hdN q hq) (hO r hr)
          · exact ap q (List.mem_filter.mp hq).1 r hr
      case wdone =>
        rintro m₁ nx₁ h tk htk ⟨hK, e1, e2, wa, W, e3, tr, hTab, hWn⟩ F N
        replace F := reveal3 F e1 e2 e3
        replace tr : Turns one two drs 4 W := tr
        clear F19 N19
        repeat' walk_at "my stepA"
        (rename News _ _ _ _ => N23); (rename Fr _ _ _ _ => F23)
        have hL1 := hK _ (.tail _ (.tail _ (.tail _ (.tail _ (List.mem_append_right _ (.tail _ (List.mem_append_right _ hL7))))))) (Nat.ne_of_gt (Nat.lt_succ_of_lt (Nat.lt_succ_of_lt hl0)))
        have hS1 := fun q hq => hK q (.tail _ (.tail _ (.tail _ (.tail _ (List.mem_append_left _ hq))))) (hS134 q hq)
        refine wpAny_with_toks (n := tk17) (by show tk17 ≤ (_ : Nat); dsimp only; omega) ?_
        refine wpAny_ListComp_free (fun _ => true) (fun v y => ∃ c ty, y = .str (S [c]) ty ∧ (c = one ∨ c = two)) rfl (by decide) rfl (by decide) rfl ?_ (by intro _; rfl)
        repeat' walk_at "my stepA"
        (rename News _ _ _ _ => N24); (rename Fr _ _ _ _ => F24)
        have hC24 := (N24 _ (hK _ (.tail _ (.tail _ (.tail _ (.tail _ (List.mem_append_right _ (.tail _ (List.mem_append_right _ hC7))))))) (Nat.ne_of_gt (Nat.lt_succ_of_lt hl0)))).1
        have hL24 := (N24 _ (hK _ (.tail _ (.tail _ (.tail _ (.tail _ (List.mem_append_right _ (.tail _ (List.mem_append_right _ hL7))))))) (Nat.ne_of_gt (Nat.lt_succ_of_lt (Nat.lt_succ_of_lt hl0))))).1
        have hD24 := (N24 _ (hK _ (.tail _ (.tail _ (.tail _ (.tail _ (List.mem_append_right _ (.tail _ (List.mem_append_right _ hD7))))))) hD3T)).1
        refine wpAny_pyIter_range (by assumption) (small_one (by decide) (by decide) (by decide) (by decide)) ?_
        intros
        refine ⟨_, _, _, _, _, _, rfl, walks_lt (Walks.range rfl _ 0 1 4), ?cs, ?cst, ?cf, ⟨?ct, ?ce⟩, ?cd⟩
        case cs => rw [sizeLine_eq]; omega
        case cst =>
          show IsRangeIter _ _ (0 + ((0 : Nat) : Int) * 1) (((4 : Nat) : Int) - ((0 : Nat) : Int)) 1
          exact Heap.get?_push_size _ rfl
        case cf => exact fun b hb => (List.mem_singleton.mp hb) ▸ (Nat.lt_of_lt_of_eq (Nat.lt_succ_self _) (Heap.size_push ..).symm)
        case ct =>
          intro C i v s₃ m₃ E' hC hP hn hm hk htk
          exact wpAny_pure ⟨rfl, ⟨s₃.heap, s₃.toks, rfl, fun _ _ e => e⟩⟩
        case ce =>
          rintro C i v s₃ m₃ E' hC ⟨hi, tt, rfl⟩ _ hn hm hk htk3
          have up := fun b o e => hk b o (fun hm2 => absurd (List.mem_singleton.mp hm2) (Nat.ne_of_lt (Heap.lt_size e))) (Heap.get?_push_of_some _ e)
          have hc1 := (⟨_, up _ _ hC24, hoC⟩ : s₃.heap.IsCell _ (some (.ref D3)))
          have hc2 := (⟨_, up _ _ hL24, hoL⟩ : s₃.heap.IsCell _ (some (.str (S [one, two]) t7)))
          have hl := (⟨_, up _ _ hD24, rfl, _, rfl⟩ : s₃.heap.IsList D3 us.toArray)
          obtain ⟨j, hj, hm⟩ : ∃ j : Int, (j = 0 ∨ j = 1 ∨ j = 2 ∨ j = 3) ∧ m₃ (Str.ofString "spot") = some (.int j tt) := ⟨_, lt4i hi, hm⟩
          obtain ⟨c, tc, hc⟩ : ∃ c tc, us[4]? = some (.int c tc) := by
            have h1 : us.length = 5 := hI3.length.trans (cells5_len _)
            obtain ⟨c, tc, e, _⟩ := hI3.at 4 us[4] (List.getElem?_eq_getElem (by omega))
            exact ⟨c, tc, by rw [List.getElem?_eq_getElem (by omega), e]⟩
          walk_at "my stepN"
          refine wpAny_Name (wpAny_loadName_cell ?q1 ?q2 ?q3 hc2 ?_) (by decide)
          (case q1 => rfl)
          (case q2 => rfl)
          (case q3 => rfl)
          walk_at "my stepN"
          refine wpAny_Name (wpAny_loadName_cell ?q1 ?q2 ?q3 hc1 ?_) (by decide)
          (case q1 => rfl)
          (case q2 => rfl)
          (case q3 => rfl)
          repeat' ((fail_if_success (with_reducible show wpAny _ _ (subscriptTail _ _ (Value.ref _) _) _ _ _)); walk_at "my step")
          refine item_listL hl (by decide) (by decide) hc ?_
          walk_at "my stepN"
          refine wpAny_Name (wpAny_loadName_local (v := .int j tt) ?q1 ?q2 hn hm ?_) (by decide)
          (case q1 => rfl)
          (case q2 => exact lookup_relabel_local rfl)
          rcases hj with rfl | rfl | rfl | rfl
          all_goals repeat' ((fail_if_success (with_reducible show wpAny _ _ (subscriptTail _ _ (Value.str _ _) (Value.int _ _)) _ _ _)); walk_at "my step")
          all_goals refine item_two (fmod_nat _ 2 (by decide)) (fun cc hcc => ?_)
          all_goals exact ⟨⟨cc, _, rfl, hcc⟩, s₃.heap, _, rfl, fun _ _ e => e⟩
        case cd =>
          intro D h25 tk25 ys25 vs25 hD25 hIs25 _ hlen25 _ hF25 hk25 htk25
          have kp := fun b o e => hk25 b o (fun hm2 => absurd (List.mem_singleton.mp hm2) (Nat.ne_of_lt (Heap.lt_size e))) (Heap.get?_push_of_some _ e)
          rw [show vs25.filter (fun _ => true) = vs25 from List.filter_eq_self.mpr (fun _ _ => rfl)] at hF25
          obtain ⟨queue, hql, hqs, hqS⟩ := signs_all hF25
          have F25 := F24.after kp
          have N25 := News.keepsAll N24 kp
          clear F24 N24
          repeat' walk_at "my stepA"
          try dsimp only at htk25
          refine wpAny_with_toks (n := tk17) (by show tk17 ≤ (_ : Nat); first | exact htk25 | (dsimp only; omega)) (join_listW hIs25 hqS (by decide) ?jw2 (fun t26 tk26 htk26 => ?_))
          case jw2 =>
            rw [sum_ones (fun c => c) queue, List.length_map]; omega
          rw [join_signs queue]
          try dsimp only at htk26
          have hq4 : queue.length = 4 := by omega
          clear hqS hF25 hlen25 hIs25 hD25 hk25 kp hC24 hL24 hD24
          repeat' walk_at "my stepA"
          (rename News _ _ _ _ => N27); (rename Fr _ _ _ _ => F27)
          refine wpAny_For ?_ (by intro _; rfl)
          refine wpAny_with_toks (n := tk17) (by show tk17 ≤ (_ : Nat); dsimp only; omega) ?_
          repeat' walk_at "my stepA"
          (rename tk17 ≤ _ => htkB)
          dsimp only at htkB
          repeat' walk_at "my stepA"
          (rename News _ _ _ _ => N28); (rename Fr _ _ _ _ => F28)
          refine iter_rangeT (n0 := tk17) (QLoop _ sa wa queue t26) rfl (by assumption) (by omega) (by omega) F28 N28 (QLoop.start rfl rfl rfl) ?wk2 ?wturn2 ?wdone2 hE (fun I => goes_name)
          case wk2 => show tk17 ≤ (_ : Nat); first | exact htkB | (dsimp only; omega)
          case wdone2 =>
            rintro m₂ nx₂ h₂ tk₂ htk₂ ⟨hK2, f1, f2, f3⟩ F N
            replace F := reveal3 F f1 f2 f3
            clear F28 N28
            iterate 4 walk_at "my stepA"
            have idX := hTab
            obtain ⟨ps, hps, _⟩ := idX
            exact hQ _ ⟨_, _, _, _, ps, rfl, by assumption, by assumption, hK2 _ hps⟩
          case wturn2 =>
            rintro i ti hi m₂ nx₂ h₂ tk₂ own₂ htk₂ ap₂ ⟨hK2, f1, f2, f3⟩ F N
            replace F := reveal3 F f1 f2 f3
            clear F28 N28
            repeat' walk_at "my stepA"
            refine wpAny_For ?_ (by intro _; rfl)
            refine wpAny_with_toks (n := tk17) (by show tk17 ≤ (_ : Nat); dsimp only; omega) ?_
            repeat' walk_at "my stepA"
            (rename tk17 ≤ _ => htkC)
            dsimp only at htkC
            repeat' walk_at "my stepA"
            (rename News _ _ _ _ => N29); (rename Fr _ _ _ _ => F29)
            refine iter_rangeT (n0 := tk17) (SLoop _ sa wa queue t26 (.int (i : Nat) ti)) rfl (by assumption) (by omega) (by omega) F29 N29 (SLoop.start rfl rfl rfl rfl) ?wk3 ?wturn3 ?wdone3 hE (fun I => goes_name)
            case wk3 => show tk17 ≤ (_ : Nat); first | exact htkC | (dsimp only; omega)
            case wdone3 =>
              rintro m₃ nx₃ h₃ tk₃ htk₃ ⟨hK3, g1, g2, g3, g4⟩ F N
              replace F := reveal4 F g1 g2 g3 g4
              clear F29 N29
              repeat' walk_at "my stepA"
              (rename News _ _ _ _ => N30); (rename Fr _ _ _ _ => F30)
              exact TEnd.mk (nx := nx₂) F30 N30 (fun p hp => hK3 p (List.mem_append_left _ hp)) (fun p hp => hK3 p (List.mem_append_right _ hp)) ap₂ ⟨hK2, rfl, rfl, rfl⟩
            case wturn3 =>
              rintro j tj hj m₃ nx₃ h₃ tk₃ own₃ htk₃ ap₃ ⟨hK3, g1, g2, g3, g4⟩ F N
              replace F := reveal4 F g1 g2 g3 g4
              clear F29 N29
              obtain ⟨a0, a1, a2, hWl, hT0, hT1, hT2⟩ := hWn
              obtain ⟨aj, haj, hTj⟩ : ∃ aj, [Value.ref a0, .ref a1, .ref a2][j]? = some (.ref aj) ∧ TextsIn _ nx₁ aj (W j) := by
                have hjj : j = 0 ∨ j = 1 := lt2 (by omega)
                rcases hjj with rfl | rfl
                · exact ⟨a0, rfl, hT0⟩
                · exact ⟨a1, rfl, hT1⟩
              repeat' walk_at "my stepA"
              (rename News _ _ _ _ => N31); (rename Fr _ _ _ _ => F31)
              have hsub : ∀ p ∈ nx₁, p ∈ nx₃ ++ own₃ := fun p hp => List.mem_append_left _ (hK3 p (List.mem_append_left _ (hK2 p hp)))
              have hWat := hWl.elim (fun e => e.at fun o e => F31.keep wa o e) (fun ⟨o, n, hm, hc, hd⟩ => ⟨o, (N31 _ (hsub _ hm)).1, hc, n, hd⟩)
              refine item_listL (l := [Value.ref a0, .ref a1, .ref a2]) hWat (by omega) (by omega) (by simpa using haj) ?_
              repeat' ((fail_if_success (with_reducible show wpAny _ _ (subscriptTail _ _ _ _) _ _ _)); (fail_if_success (with_reducible show wpAny _ _ (eval (Expr.Subscript _ _ _) _) _ _ _)); walk_at "my stepA")
              refine wpAny_with_toks (n := tk17) (by show tk17 ≤ (_ : Nat); dsimp only; omega) ?_
              repeat' ((fail_if_success (with_reducible show wpAny _ _ (PySem.call _ _ _) _ _ _)); walk_at "my stepA")
              (rename tk17 ≤ _ => htkE)
              try dsimp only at htkE
              (rename News _ _ _ _ => N32); (rename Fr _ _ _ _ => F32)
              rw [slice_drop]
              have hql2 : (queue.drop i).length ≤ 4 := by rw [List.length_drop]; omega
              refine wpAny_with_toks (n := tk17) (by show tk17 ≤ (_ : Nat); dsimp only; omega) (takes_ok ⟨XB.keeps F32.keep, T0.keeps F32.keep⟩ (by decide) (hTj.list F32 N32 fun p hp _ => hsub p hp) (fun x hx => ⟨Nat.le_trans (turns_over hdok tr j (by omega) x hx).2 (by decide), fun c hc => ((turns_over hdok tr j (by omega) x hx).1 c hc).elim (fun e => e ▸ PO.2.2.2.2.1) (fun e => e ▸ PO.2.2.2.2.2)⟩) (by rw [S_len]; omega) (fun h33 tk33 k33 htk33 => ?_))
              have F33 := F32.after k33
              have N33 := News.keepsAll N32 k33
              clear F32 N32
              try dsimp only at htk33
              repeat' walk_at "my stepA"
              (rename News _ _ _ _ => N34); (rename Fr _ _ _ _ => F34)
              refine wpAny_Name (wpAny_loadName_cell ?q7 ?q8 ?q9 ⟨_, (N34 _ (hsub _ hL1)).1, hoL⟩ ?_) (by decide)
              (case q7 => rfl)
              (case q8 => rfl)
              (case q9 => rfl)
              repeat' ((fail_if_success (with_reducible show wpAny _ _ (eval (Expr.Subscript _ _ _) _) _ _ _)); walk_at "my stepA")
              refine wpAny_with_toks (n := tk17) (by show tk17 ≤ (_ : Nat); dsimp only; omega) ?_
              repeat' ((fail_if_success (with_reducible show wpAny _ _ (PySem.call _ _ _) _ _ _)); walk_at "my stepA")
              (rename tk17 ≤ _ => htkF)
              try dsimp only at htkF
              rw [slice_drop]
              (rename News _ _ _ _ => N35); (rename Fr _ _ _ _ => F35)
              have hSl := hSS.at F35 N35 fun hm => hsub _ (hS1 _ (List.mem_append_left _ hm))
              have hSp := hsP2.mono fun v st q => StepSt.at q F35 N35 fun p hp _ => hsub _ (hS1 _ (List.mem_append_right _ hp))
              refine forth_law (N := tk17) PO.2.2.2.1 PO.2.2.2.2.1 PO.2.2.2.2.2 XB TB (fun st hst => ?sgood) (by rw [List.length_map]; omega) KB F35 (place := j) (q := queue.drop i) ⟨_, hSl, hcS, nS, hdS⟩ hSp (by show tk17 ≤ (_ : Nat); dsimp only; omega) hql2 (fun c hc => hqs c (List.mem_of_mem_drop hc)) (fun h36 tk36 k36 => ?_)
              case sgood =>
                obtain ⟨dr, hdr, rfl⟩ := List.mem_map.mp hst
                exact stepGood (hdok dr hdr)
              obtain ⟨F36, N36⟩ := after_forth F35 N35 k36
              rw [← turns_law PO.2.2.2.1 hdok tr j (queue.drop i) (by omega) (fun c hc => hqs c (List.mem_of_mem_drop hc))]
              clear F35 N35
              generalize takesL (W j) (queue.drop i) = bb
              cases bb
              all_goals repeat' walk_at "my stepA"
              all_goals exact TEnd.mk (nx := nx₃) F36 N36 (fun p hp => List.mem_append_left _ hp) (fun p hp => List.mem_append_right _ hp) ap₃ ⟨hK3, rfl, rfl, rfl, rfl⟩)
end Mine
theorem PySem.Challenge.cw_ti0015_01_holds : PySem.Challenge.rw_ti0015_01.Holds := by
  exact Mine.law_walk
