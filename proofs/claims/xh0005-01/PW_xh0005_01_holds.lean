import PyProof.Rows.All
import Wide.All
import OpenK.AllK
import Wide.FinOn
import PySem.Challenge.RW_xh0005_01
open PySem PySem.W PySem.Calls PyProof.Rows
set_option Elab.async false
namespace Mine
set_option maxRecDepth 100000 in
set_option maxHeartbeats 8000000 in
open_top hd for PySem.Challenge.rw_xh0005_01
end Mine

namespace Mine
section
set_option maxRecDepth 100000
/-- a text told sign by sign -/
def toldS (nm : Nat → Str) (x : Str) : Str := ⟨(x.cps.toList.flatMap fun c => (nm c).cps.toList).toArray⟩

theorem told_list (nm : Nat → Str) (x : Str) : (toldS nm x).cps.toList = x.cps.toList.flatMap fun c => (nm c).cps.toList := by simp [toldS]
theorem str_of_list {x y : Str} (h : x.cps.toList = y.cps.toList) : x = y := Str.ext' (Array.toList_inj.mp h)

/-- one sign's replacement -/
def sub1 (c : Nat) (z : Str) (k : Nat) : List Nat := if k = c then z.cps.toList else [k]
theorem sub1_free (c : Nat) (z : Str) : ∀ l : List Nat, c ∉ l → l.flatMap (sub1 c z) = l
  | [], _ => rfl
  | k :: r, h => by
    have h1 : ¬ k = c := fun e => h (e ▸ List.mem_cons_self ..)
    have h2 : c ∉ r := fun m => h (List.mem_cons_of_mem _ m)
    rw [List.flatMap_cons, sub1_free c z r h2, sub1, if_neg h1]; rfl
theorem sub1_join (c : Nat) (z : Str) : ∀ parts : List Str, (∀ p ∈ parts, c ∉ p.cps.toList) → (Str.join ⟨#[c]⟩ parts).cps.toList.flatMap (sub1 c z) = (Str.join z parts).cps.toList
  | [], _ => rfl
  | [p], h => sub1_free c z _ (h p (List.mem_singleton.mpr rfl))
  | p :: q :: r, h => by
    have ih := sub1_join c z (q :: r) fun a ha => h a (List.mem_cons_of_mem _ ha)
    show (p ++ ⟨#[c]⟩ ++ Str.join ⟨#[c]⟩ (q :: r)).cps.toList.flatMap (sub1 c z) = (p ++ z ++ Str.join z (q :: r)).cps.toList
    simp only [Str.cps_append, Array.toList_append, List.flatMap_append]
    rw [ih, sub1_free c z _ (h p (List.mem_cons_self ..))]
    have e : [c].flatMap (sub1 c z) = z.cps.toList := by simp [sub1]
    rw [e]
theorem replace_flat (x z : Str) (c : Nat) : (Txt.replace x ⟨#[c]⟩ z).cps.toList = x.cps.toList.flatMap (sub1 c z) := by
  rw [StrLaws.replace_one, ← sub1_join c z _ (StrLaws.split_free x c), StrLaws.join_split]
theorem replace_none (x z : Str) (c : Nat) (h : (Builtin.Str.occurrences x ⟨#[c]⟩ 0 x.length 1).isEmpty = true) : Txt.replace x ⟨#[c]⟩ z = x := by
  have hf := StrLaws.found_one x c
  rw [h, Bool.not_true] at hf
  exact str_of_list (by rw [replace_flat, sub1_free c z _ (of_decide_eq_false hf.symm)])

theorem join_told (nm : Nat → Str) : ∀ l : List Nat, (Txt.join (Str.ofString "") (l.map nm)).cps.toList = l.flatMap fun c => (nm c).cps.toList := by
  have e : Str.ofString "" = ⟨#[]⟩ := by decide +kernel
  intro l
  show (Builtin.Str.glued _ _).cps.toList = _
  rw [StrLaws.glued_eq_join, e]
  induction l with
  | nil => rfl
  | cons a r ih => rw [List.map_cons, join_nil_cons, Str.cps_append, Array.toList_append, ih, List.flatMap_cons]
theorem join_toldS (nm : Nat → Str) (x : Str) : Txt.join (Str.ofString "") (x.cps.toList.map nm) = toldS nm x := str_of_list (by rw [join_told, told_list])

theorem told_length (nm : Nat → Str) (B : Nat) (hB : ∀ c, (nm c).length ≤ B) (x : Str) : (toldS nm x).length ≤ B * x.length := by
  have key : ∀ l : List Nat, (l.flatMap fun c => (nm c).cps.toList).length ≤ B * l.length := by
    intro l
    induction l with
    | nil => simp
    | cons a r ih =>
      have := hB a
      simp only [List.flatMap_cons, List.length_append, List.length_cons, Array.length_toList, Nat.mul_succ] at *
      show (nm a).cps.size + _ ≤ _
      have h2 : (nm a).cps.size ≤ B := this
      omega
  have := key x.cps.toList
  show (toldS nm x).cps.size ≤ B * x.cps.size
  rw [← Array.length_toList, told_list]
  rw [Array.length_toList] at this
  exact this
theorem sum_length (nm : Nat → Str) (B : Nat) (hB : ∀ c, (nm c).length ≤ B) (l : List Nat) : ((l.map nm).map (·.length)).sum ≤ B * l.length := by
  have := StrLaws.sumLen_le (B := B) (l.map nm) (fun y hy => by obtain ⟨c, _, rfl⟩ := List.mem_map.mp hy; exact hB c)
  rw [List.length_map, Nat.mul_comm] at this
  exact this

/-- the three tables -/
def nmP (c : Nat) : Str := if c = 38 then Str.ofString "&amp;" else if c = 60 then Str.ofString "&lt;" else if c = 62 then Str.ofString "&gt;" else ⟨#[c]⟩
def nmM (c : Nat) : Str := if c = 38 then Str.ofString "&amp;" else if c = 60 then Str.ofString "&lt;" else if c = 62 then Str.ofString "&gt;" else if c = 34 then Str.ofString "&quot;" else if c = 13 then Str.ofString "&#13;" else if c = 10 then Str.ofString "&#10;" else if c = 9 then Str.ofString "&#09;" else ⟨#[c]⟩
def nmH (c : Nat) : Str := if c = 38 then Str.ofString "&amp;" else if c = 62 then Str.ofString "&gt;" else if c = 34 then Str.ofString "&quot;" else ⟨#[c]⟩
theorem nmP_len (c : Nat) : (nmP c).length ≤ 6 := by unfold nmP; (repeat' split) <;> first | decide +kernel | (show 1 ≤ 6; decide)
theorem nmM_len (c : Nat) : (nmM c).length ≤ 6 := by unfold nmM; (repeat' split) <;> first | decide +kernel | (show 1 ≤ 6; decide)
theorem nmH_len (c : Nat) : (nmH c).length ≤ 6 := by unfold nmH; (repeat' split) <;> first | decide +kernel | (show 1 ≤ 6; decide)

theorem lit38 : Str.ofString "&" = ⟨#[38]⟩ := by decide +kernel
theorem lit60 : Str.ofString "<" = ⟨#[60]⟩ := by decide +kernel
theorem lit62 : Str.ofString ">" = ⟨#[62]⟩ := by decide +kernel
theorem lit34 : Str.ofString "\"" = ⟨#[34]⟩ := by decide +kernel
theorem lit13 : Str.ofString "\x0d" = ⟨#[13]⟩ := by decide +kernel
theorem lit10 : Str.ofString "\n" = ⟨#[10]⟩ := by decide +kernel
theorem lit9 : Str.ofString "\t" = ⟨#[9]⟩ := by decide +kernel
theorem amp_l : (Str.ofString "&amp;").cps.toList = [38, 97, 109, 112, 59] := by decide +kernel
theorem lt_l : (Str.ofString "&lt;").cps.toList = [38, 108, 116, 59] := by decide +kernel
theorem gt_l : (Str.ofString "&gt;").cps.toList = [38, 103, 116, 59] := by decide +kernel
theorem quot_l : (Str.ofString "&quot;").cps.toList = [38, 113, 117, 111, 116, 59] := by decide +kernel
theorem r13_l : (Str.ofString "&#13;").cps.toList = [38, 35, 49, 51, 59] := by decide +kernel
theorem r10_l : (Str.ofString "&#10;").cps.toList = [38, 35, 49, 48, 59] := by decide +kernel
theorem r9_l : (Str.ofString "&#09;").cps.toList = [38, 35, 48, 57, 59] := by decide +kernel

/-- the functions' own roads -/
def cd1 (x : Str) : Str := Txt.replace x (Str.ofString "&") (Str.ofString "&amp;")
def cd2 (x : Str) : Str := Txt.replace (cd1 x) (Str.ofString "<") (Str.ofString "&lt;")
def cd3 (x : Str) : Str := Txt.replace (cd2 x) (Str.ofString ">") (Str.ofString "&gt;")
def at4 (x : Str) : Str := Txt.replace (cd3 x) (Str.ofString "\"") (Str.ofString "&quot;")
def at5 (x : Str) : Str := Txt.replace (at4 x) (Str.ofString "\x0d") (Str.ofString "&#13;")
def at6 (x : Str) : Str := Txt.replace (at5 x) (Str.ofString "\n") (Str.ofString "&#10;")
def at7 (x : Str) : Str := Txt.replace (at6 x) (Str.ofString "\t") (Str.ofString "&#09;")
def ht2 (x : Str) : Str := Txt.replace (cd1 x) (Str.ofString ">") (Str.ofString "&gt;")
def ht3 (x : Str) : Str := Txt.replace (ht2 x) (Str.ofString "\"") (Str.ofString "&quot;")

def n1 (c : Nat) : Str := if c = 38 then Str.ofString "&amp;" else ⟨#[c]⟩
def n2 (c : Nat) : Str := if c = 38 then Str.ofString "&amp;" else if c = 60 then Str.ofString "&lt;" else ⟨#[c]⟩
def n4 (c : Nat) : Str := if c = 38 then Str.ofString "&amp;" else if c = 60 then Str.ofString "&lt;" else if c = 62 then Str.ofString "&gt;" else if c = 34 then Str.ofString "&quot;" else ⟨#[c]⟩
def n5 (c : Nat) : Str := if c = 38 then Str.ofString "&amp;" else if c = 60 then Str.ofString "&lt;" else if c = 62 then Str.ofString "&gt;" else if c = 34 then Str.ofString "&quot;" else if c = 13 then Str.ofString "&#13;" else ⟨#[c]⟩
def n6 (c : Nat) : Str := if c = 38 then Str.ofString "&amp;" else if c = 60 then Str.ofString "&lt;" else if c = 62 then Str.ofString "&gt;" else if c = 34 then Str.ofString "&quot;" else if c = 13 then Str.ofString "&#13;" else if c = 10 then Str.ofString "&#10;" else ⟨#[c]⟩
def h2 (c : Nat) : Str := if c = 38 then Str.ofString "&amp;" else if c = 62 then Str.ofString "&gt;" else ⟨#[c]⟩
theorem n1_len (c : Nat) : (n1 c).length ≤ 6 := by unfold n1; (repeat' split) <;> first | decide +kernel | (show 1 ≤ 6; decide)
theorem n2_len (c : Nat) : (n2 c).length ≤ 6 := by unfold n2; (repeat' split) <;> first | decide +kernel | (show 1 ≤ 6; decide)
theorem n4_len (c : Nat) : (n4 c).length ≤ 6 := by unfold n4; (repeat' split) <;> first | decide +kernel | (show 1 ≤ 6; decide)
theorem n5_len (c : Nat) : (n5 c).length ≤ 6 := by unfold n5; (repeat' split) <;> first | decide +kernel | (show 1 ≤ 6; decide)
theorem n6_len (c : Nat) : (n6 c).length ≤ 6 := by unfold n6; (repeat' split) <;> first | decide +kernel | (show 1 ≤ 6; decide)
theorem h2_len (c : Nat) : (h2 c).length ≤ 6 := by unfold h2; (repeat' split) <;> first | decide +kernel | (show 1 ≤ 6; decide)

theorem next_told {f g : Nat → Str} {c : Nat} {z : Str} (h : ∀ k, (f k).cps.toList.flatMap (sub1 c z) = (g k).cps.toList) (x y : Str) (hy : y = toldS f x) : Txt.replace y ⟨#[c]⟩ z = toldS g x := by
  subst hy
  refine str_of_list ?_
  rw [replace_flat, told_list, told_list, List.flatMap_assoc]
  exact congrArg (fun q => x.cps.toList.flatMap q) (funext h)

theorem told_self (x : Str) : x = toldS (fun c => ⟨#[c]⟩) x := str_of_list (by rw [told_list]; simp)
theorem cd1_is (x : Str) : cd1 x = toldS n1 x := by
  unfold cd1; rw [lit38]
  refine next_told (f := fun c => ⟨#[c]⟩) (fun k => ?_) x x (told_self x)
  simp only [n1]; split <;> simp_all [sub1, amp_l]
theorem cd2_is (x : Str) : cd2 x = toldS n2 x := by
  unfold cd2; rw [lit60]
  refine next_told (fun k => ?_) x _ (cd1_is x)
  simp only [n1, n2]; (repeat' split) <;> simp_all [sub1, amp_l, lt_l]
theorem cd3_is (x : Str) : cd3 x = toldS nmP x := by
  unfold cd3; rw [lit62]
  refine next_told (fun k => ?_) x _ (cd2_is x)
  simp only [n2, nmP]; (repeat' split) <;> simp_all [sub1, amp_l, lt_l, gt_l]
theorem at4_is (x : Str) : at4 x = toldS n4 x := by
  unfold at4; rw [lit34]
  refine next_told (fun k => ?_) x _ (cd3_is x)
  simp only [nmP, n4]; (repeat' split) <;> simp_all [sub1, amp_l, lt_l, gt_l, quot_l]
theorem at5_is (x : Str) : at5 x = toldS n5 x := by
  unfold at5; rw [lit13]
  refine next_told (fun k => ?_) x _ (at4_is x)
  simp only [n4, n5]; (repeat' split) <;> simp_all [sub1, amp_l, lt_l, gt_l, quot_l, r13_l]
theorem at6_is (x : Str) : at6 x = toldS n6 x := by
  unfold at6; rw [lit10]
  refine next_told (fun k => ?_) x _ (at5_is x)
  simp only [n5, n6]; (repeat' split) <;> simp_all [sub1, amp_l, lt_l, gt_l, quot_l, r13_l, r10_l]
theorem at7_is (x : Str) : at7 x = toldS nmM x := by
  unfold at7; rw [lit9]
  refine next_told (fun k => ?_) x _ (at6_is x)
  simp only [n6, nmM]; (repeat' split) <;> simp_all [sub1, amp_l, lt_l, gt_l, quot_l, r13_l, r10_l, r9_l]
theorem ht2_is (x : Str) : ht2 x = toldS h2 x := by
  unfold ht2; rw [lit62]
  refine next_told (fun k => ?_) x _ (cd1_is x)
  simp only [n1, h2]; (repeat' split) <;> simp_all [sub1, amp_l, gt_l]
theorem ht3_is (x : Str) : ht3 x = toldS nmH x := by
  unfold ht3; rw [lit34]
  refine next_told (fun k => ?_) x _ (ht2_is x)
  simp only [h2, nmH]; (repeat' split) <;> simp_all [sub1, amp_l, gt_l, quot_l]

open PySem.Builtin.Str in
/-- a replaced text's length, crudely -/
theorem repl_len (x y z : Str) : (Txt.replace x y z).length ≤ x.length + (x.length + 1) * z.length := by
  unfold Txt.replace
  split
  · exact Nat.le_add_right _ _
  · have hy : (glued y (partsBetween x (occurrences x y 0 x.length (x.length + 1)) y.length)).length = x.length := by rw [StrLaws.glued_between_self]
    have ho := StrLaws.occ_length_le x y 0 x.length (x.length + 1)
    rw [size_glued, length_partsBetween, Nat.add_sub_cancel] at hy
    rw [size_glued, length_partsBetween, Nat.add_sub_cancel]
    have hm : (occurrences x y 0 x.length (x.length + 1)).length * z.length ≤ (x.length + 1) * z.length := Nat.mul_le_mul_right _ ho
    omega
def row1 (x : Str) : Str := Txt.replace x (Str.ofString "\x0d\n") (Str.ofString "\n")
def rowsOf (x : Str) : Str := Txt.replace (row1 x) (Str.ofString "\x0d") (Str.ofString "\n")
theorem row1_len {x : Str} (h : x.length ≤ 400) : (row1 x).length ≤ 801 := by
  have := repl_len x (Str.ofString "\x0d\n") (Str.ofString "\n")
  have e : (Str.ofString "\n").length = 1 := by decide +kernel
  rw [e] at this
  unfold row1
  omega
theorem rows_len {x : Str} (h : x.length ≤ 400) : (rowsOf x).length ≤ 1603 := by
  have := repl_len (row1 x) (Str.ofString "\x0d") (Str.ofString "\n")
  have e : (Str.ofString "\n").length = 1 := by decide +kernel
  rw [e] at this
  have := row1_len h
  unfold rowsOf
  omega

/-- the place and the text read after so many signs -/
def placeAt (nm : Nat → Str) (x : Str) (i : Nat) : Int := (((x.cps.toList.take i).flatMap fun c => (nm c).cps.toList).length : Nat)
def readAt (x : Str) (i : Nat) : Str := ⟨(x.cps.toList.take i).toArray⟩
/-- each sign is told by itself, or by a name between & and ; -/
def NamesOk (nm : Nat → Str) : Prop := ∀ c, (c ≠ 38 ∧ nm c = ⟨#[c]⟩) ∨ ∃ mid, (nm c).cps.toList = 38 :: mid ++ [59] ∧ 59 ∉ mid
theorem read_zero (x : Str) : Str.ofString "" = readAt x 0 := by
  have e : Str.ofString "" = ⟨#[]⟩ := by decide +kernel
  rw [e]; simp [readAt]
theorem place_zero (nm : Nat → Str) (x : Str) : 0 = placeAt nm x 0 := by simp [placeAt]
end
end Mine

namespace Mine
section
set_option maxRecDepth 100000
section
variable {prog : Program} {w : World} {A : Around} {E : Value → Shared → Prop} {s : Shared} {h₀ : Heap} {L : Addr} {m : Str → Option Value} {env : Env}

theorem pyIter_strO {x : Str} {t : Tok} {Q : Value → Shared → Prop}
    (hQ : ∀ (o : Obj) (St : Nat → Heap → Prop), (∀ A' : Around, A'.handled = none → Walks prog w A' s.heap.objs.size [s.heap.objs.size] [s.heap.objs.size] x.cps.size (SignAt x) St) → St 0 (s.heap.push o) →
      (∀ i h, St i h → ∃ o, h.get? s.heap.objs.size = some o) → Q (.ref s.heap.objs.size) { s with heap := s.heap.push o }) : wpAny (model prog w) A (pyIter (.str x t)) Q E s := by
  cases ha : x.cps.all (· < 128)
  · exact wpAny_pyIter_wide ha (hQ _ _ (fun A' hA => Walks.strWide hA _ x t) ⟨_, Heap.get?_push_size _ rfl, rfl, rfl⟩ fun _ _ st => by obtain ⟨o, e, _⟩ := st; exact ⟨o, e⟩)
  · exact wpAny_pyIter_ascii ha (hQ _ _ (fun A' hA => Walks.strAscii hA _ x t) ⟨_, Heap.get?_push_size _ rfl, rfl, rfl⟩ fun _ _ st => by obtain ⟨o, e, _⟩ := st; exact ⟨o, e⟩)

/-- what a comprehension over a text asks of its source -/
def StrSrc (prog : Program) (w : World) (A : Around) (h₀ : Heap) (L : Addr) (m : Str → Option Value) (env : Env) (elt : Expr) (x : Str) (scope : Scope) (cl : List (Str × Addr)) (Q : Value → Shared → Prop) (xv : Value) (s₁ : Shared) : Prop :=
  ∃ y t news, xv = .str y t ∧ A.handled = none ∧ Fr h₀ L s₁.heap m ∧ News h₀ L s₁.heap news ∧ y.length ≤ sizeLine ∧
    ∀ s₂ : Shared, (∃ h, s₂ = { s₁ with heap := h }) → LCg.CompRest prog w A h₀ L m env elt x scope cl s₂ (fun _ => True) (SignAt y) (LCg.FinE h₀ L m s₂ Q) y.cps.size 0 [] news

theorem comp_str {elt iter : Expr} {x : Str} {px : Pos} {scope : Scope} {cl : List (Str × Addr)} {pos : Pos} {Q : Value → Shared → Prop} (F₀ : Fr h₀ L s.heap m)
    (hclos : closureFor scope env = pure cl) (hcell : ∀ y ∈ scope.names, y.2 ≠ .cell) (hkind : scope.kind = .function)
    (hnames : ∀ y ∈ scope.names, y.2 = .local → scope.names.lookup y.1 = some .local) (hx : scope.names.lookup x = some .local)
    (h : wpAny (model prog w) A (eval iter env) (StrSrc prog w A h₀ L m env elt x scope cl Q) E s)
    (hs : ∀ x, foldedSetIterable iter env x = pure x := by intro _; rfl) :
    wpAny (model prog w) A (eval (.ListComp elt [⟨.Name x px, iter, [], 0⟩] scope pos) env) Q E s := by
  rw [eval_ListComp]
  refine wpAny_comprehension_free (use := none) rfl hs hclos hkind hnames (wpAny_mono h (fun xv s₁ h₁ => ?_) fun _ _ e => e)
  obtain ⟨y, t, news, rfl, hh, F, N, hsz, R⟩ := h₁
  refine pyIter_strO fun o St W hst hio => ?_
  have up : ∀ b x, s₁.heap.get? b = some x → (s₁.heap.push o).get? b = some x := fun b x e => Heap.get?_push_of_some _ e
  refine LCg.block_U (W A hh) hsz hio (fun i h h' oI nw st e e' _ _ _ => (W A hh).frame _ _ _ st fun b hb o' e2 => ?_) hcell hkind hx hst (fun b hb => ?_)
    (F.keeps up) (N.grown up) (Nat.ne_of_lt F.ns.lt) (next_is_new F) (fun p hp => Nat.ne_of_lt (Heap.lt_size (N p hp).1)) trivial (R _ ⟨_, rfl⟩) ?_
  · rw [List.mem_singleton.mp hb] at e2 ⊢
    rw [e] at e2; rw [e', ← e2]
  · rw [List.mem_singleton.mp hb]
    show s₁.heap.objs.size < (s₁.heap.push _).objs.size
    rw [Heap.size_push]; exact Nat.lt_succ_self _
  · intro D C h tk m' ys news' F' N' o1 hn hC₀ hD₀ hCL hDL hCD offC fin
    refine ⟨m', hn, fun h'' hs'' => fin D h'' tk (F'.change hs'' hCL hC₀) (fun p hp => ?_) o1⟩
    refine ⟨hs''.extBut _ _ ?_ (N' p hp).1, (N' p hp).2⟩
    rcases List.mem_cons.mp hp with rfl | hp
    · exact Ne.symm hCD
    · exact offC p hp

theorem rest_str {elt : Expr} {x : Str} {scope : Scope} {cl : List (Str × Addr)} {news : List (Addr × Obj)} {Fin : List Value → List (Addr × Obj) → Prop} {y : Str} (g : Nat → Str)
    (turn : ∀ c t I oI C oC D m₂ ys h tk (E' : Value → Shared → Prop) (Q' : Value → Shared → Prop), c ∈ y.cps.toList → LCg.NsObj oC m₂ → m₂ x = some (.str ⟨#[c]⟩ t) → Fr h₀ L h m → News h₀ L h ((I, oI) :: (C, oC) :: (D, LCg.lst ys) :: news) →
      (∀ h' tk' t', Fr h₀ L h' m → News h₀ L h' ((I, oI) :: (C, oC) :: (D, LCg.lst ys) :: news) → Q' (.str (g c) t') { s with heap := h', toks := tk' }) →
      wpAny (model prog w) A (eval elt (compEnvC scope cl C env)) Q' E' { s with heap := h, toks := tk })
    (fin : ∀ ys, StrsAre ys (y.cps.toList.map g) → Fin ys news) : LCg.CompRest prog w A h₀ L m env elt x scope cl s (fun _ => True) (SignAt y) Fin y.cps.size 0 [] news := by
  have key : ∀ (j i : Nat) (ys : List Value), i + j = y.cps.size → StrsAre ys ((y.cps.toList.take i).map g) → LCg.CompRest prog w A h₀ L m env elt x scope cl s (fun _ => True) (SignAt y) Fin j i ys news := by
    intro j
    induction j with
    | zero =>
      intro i ys hi hy
      have e : y.cps.toList.take i = y.cps.toList := List.take_of_length_le (by rw [Array.length_toList]; omega)
      rw [e] at hy
      exact LCg.CompRest.zero (fin ys hy)
    | succ j ih =>
      intro i ys hi hy
      refine LCg.CompRest.succ ?_
      intro v I oI C oC D m₂ h tk E' hv hC hx F N off ne
      obtain ⟨c, u, hc, rfl⟩ := hv
      have hc' : y.cps.toList[i]? = some c := by rw [Array.getElem?_toList]; exact hc
      refine turn c u I oI C oC D m₂ ys h tk E' _ (List.mem_of_getElem? hc') hC hx F N fun h' tk' t' F' N' => ?_
      refine ⟨h', tk', news, rfl, F', N', off, trivial, ih (i + 1) _ (by omega) ?_⟩
      rw [List.take_add_one, hc']
      simpa using hy.append' (.cons (g c) t' .nil)
  exact key y.cps.size 0 [] (by omega) (by simp only [List.take_zero, List.map_nil]; exact .nil)

/-- replace, with the tokens told: no token is lost -/
theorem repl_mono {x y z : Str} {t u v : Tok} {Q : Value → Shared → Prop} (hu : u ≠ 0) (hv : v ≠ 0) (huv : u ≠ v) (hyz : (y == z) = false) (hx : x.length ≤ 1048576) (hz : z.length ≤ 14)
    (hq : ∀ t' k, s.toks ≤ k → Q (.str (Txt.replace x y z) t') { s with toks := k }) : wpAny (model prog w) A (call (.builtin "str.replace") [.str x t, .str y u, .str z v]) Q E s := by
  have hb : x.length + (x.length + 1) * z.length ≤ 16777216 := by
    have h1 : (x.length + 1) * z.length ≤ (x.length + 1) * 14 := Nat.mul_le_mul_left _ hz
    omega
  have hl : Builtin.Str.tooLong (x.length + (Builtin.Str.occurrences x y 0 x.length (x.length + 1)).length * z.length) = false := by
    have e : (2 : Nat) ^ 24 = 16777216 := by decide
    have h1 := StrLaws.occ_length_le x y 0 x.length (x.length + 1)
    have h2 : (Builtin.Str.occurrences x y 0 x.length (x.length + 1)).length * z.length ≤ (x.length + 1) * z.length := Nat.mul_le_mul_right _ h1
    unfold Builtin.Str.tooLong PySem.sizeLine
    exact decide_eq_false (by omega)
  refine call_gives F.slot_str_replace (typeIs_str _ _ _) F.entry_str_replace (F.args_str_replace_3 _ _ _)
    (gives_str_replace x y z t u v fun _ => ⟨by simp [hu, hv], by simp [huv], hyz, hl⟩) ?_
  have hr : Txt.replace x y z = if ((Builtin.Str.occurrences x y 0 x.length (x.length + 1)).isEmpty || (y.length == 0 && z.length == 0)) = true then x
      else Builtin.Str.glued z (Builtin.Str.partsBetween x (Builtin.Str.occurrences x y 0 x.length (x.length + 1)) y.length) := rfl
  rw [hr] at hq
  cases hc : ((Builtin.Str.occurrences x y 0 x.length (x.length + 1)).isEmpty || (y.length == 0 && z.length == 0)) with
  | true =>
    rw [hc] at hq
    rw [if_pos rfl] at hq ⊢
    exact hq t s.toks (Nat.le_refl _)
  | false =>
    rw [hc] at hq
    rw [if_neg Bool.false_ne_true] at hq ⊢
    exact ⟨fits_replaced y hb, hq _ _ (Nat.le_succ _)⟩

/-- the tokens so far, as a letter that is not nought -/
theorem gen_toks {α : Type} {M : Model} {t : Sem α} {Q : α → Shared → Prop} {h : Heap} {g : Array GenState} {dr : Drawn} {k : Nat} {o : OsState}
    (H : ∀ tk, 0 < tk → wpAny M A t Q E { heap := h, gens := g, drawn := dr, toks := tk, os := o }) : wpAny M A t Q E { heap := h, gens := g, drawn := dr, toks := k + 1, os := o } := H _ (Nat.succ_pos _)

/-- one step of an escaping function: «if c in text: text = text.replace(c, z)» -/
theorem esc_step {pos p1 p2 p3 p4 p5 p6 p7 p8 p9 p10 : Pos} {q1 q2 q3 : Nat} {rep : Str} {news : List (Addr × Obj)} {nm x c z : Str} {t : Tok} {k : Nat} {Q : Flow → Shared → Prop}
    (F : Fr h₀ L s.heap m) (N : News h₀ L s.heap news) (hv : m nm = some (.str x t)) (hc : c = ⟨#[k]⟩)
    (h1 : ∀ Q' : Bool → Shared → Prop, (∀ h tk, 0 < tk → Fr h₀ L h m → News h₀ L h news → Q' (!(Builtin.Str.occurrences x c 0 x.length 1).isEmpty) { s with heap := h, toks := tk }) → wpAny (model prog w) A (isTrue (.Compare (.Constant (.str c) q1 p1) [.In] [.Name nm p2] p3) env (eval (.Compare (.Constant (.str c) q1 p1) [.In] [.Name nm p2] p3) env)) Q' E s)
    (h2 : ∀ h tk, 0 < tk → Fr h₀ L h m → News h₀ L h news → ∀ Q' : Flow → Shared → Prop, (∀ t' h' tk', 0 < tk' → Fr h₀ L h' (fun y => if y = nm then some (.str (Txt.replace x c z) t') else m y) → News h₀ L h' news → Q' .next { s with heap := h', toks := tk' }) →
      wpAny (model prog w) A (execs [.Assign [.Name nm p4] (.Call (.Attribute (.Name nm p5) rep p6) [.Constant (.str c) q2 p7, .Constant (.str z) q3 p8] [] p9) p10] env) Q' E { s with heap := h, toks := tk })
    (h3 : ∀ t' h' tk', 0 < tk' → Fr h₀ L h' (fun y => if y = nm then some (.str (Txt.replace x c z) t') else m y) → News h₀ L h' news → Q .next { s with heap := h', toks := tk' }) :
    wpAny (model prog w) A (exec (.If (.Compare (.Constant (.str c) q1 p1) [.In] [.Name nm p2] p3) [.Assign [.Name nm p4] (.Call (.Attribute (.Name nm p5) rep p6) [.Constant (.str c) q2 p7, .Constant (.str z) q3 p8] [] p9) p10] [] pos) env) Q E s := by
  refine wpAny_If (h1 _ fun h tk htk F₁ N₁ => ?_)
  cases hb : (Builtin.Str.occurrences x c 0 x.length 1).isEmpty with
  | false =>
    exact h2 h tk htk F₁ N₁ Q h3
  | true =>
    show wpAny (model prog w) A (execs [] env) Q E _
    refine wpAny_execs_nil (h3 t h tk htk ?_ N₁)
    subst hc
    rw [replace_none x z k hb]
    have e : (fun y => if y = nm then some (Value.str x t) else m y) = m := by
      funext y
      by_cases hy : y = nm
      · rw [if_pos hy, hy, hv]
      · rw [if_neg hy]
    rw [e]
    exact F₁
end
/-- what is told of a call of a def of the text: from whatever frame, it hands back R t, and all that was made stands -/
abbrev EscClaim (prog : Program) (w : World) (K : Frag) (p : Program) (loose : List Str) (mean : ExcName → Option Value) (mg mb : Str → Option Value) (f : Addr) (news : List (Addr × Obj)) (lo : Nat) (vs : List Value) (R : Tok → Value) : Prop :=
  ∀ (dp un : Nat) (gd : Option (List Code)) (cn : Str) (cs : Scope) (a : Addr) (ccd : Value) (cl : List (Str × Addr)) (outer : List Env) (A₀ : Around) (base h₀ : Heap) (L : Addr) (m : Str → Option Value) (s : Shared) (Q E : Value → Shared → Prop),
    Below A₀ base outer h₀ → Fr h₀ L s.heap m → K.In h₀ → News h₀ L s.heap news → Top p loose mean mg mb h₀ → cs.kind = .function →
    dp + 1 < recursionLimit → un + 8 < cLine →
    (∀ (t : Tok) (h' : Heap) (tk' : Nat), lo ≤ tk' → Fr h₀ L h' m → News h₀ L h' news → Q (R t) { s with heap := h', toks := tk' }) →
      wpAny (model prog w) (ktrTop dp un gd cn cs L a ccd cl outer) (call (.ref f) vs) Q E s
theorem use_c {prog : Program} {w : World} {K : Frag} {p : Program} {loose : List Str} {mean : ExcName → Option Value} {mg mb : Str → Option Value} {f : Addr} {news : List (Addr × Obj)} {lo : Nat} {vs : List Value} {R : Tok → Value} (C : EscClaim prog w K p loose mean mg mb f news lo vs R)
    {dp un : Nat} {gd : Option (List Code)} {cn : Str} {cs : Scope} {a : Addr} {ccd : Value} {cl : List (Str × Addr)} {outer : List Env} {A₀ : Around} {base h₀ : Heap} {L : Addr} {m : Str → Option Value} {s : Shared} {Q E : Value → Shared → Prop}
    (B : Below A₀ base outer h₀) (F : Fr h₀ L s.heap m) (X : K.In h₀) (N : News h₀ L s.heap news) (T : Top p loose mean mg mb h₀) (hk : cs.kind = .function) (hd : dp + 1 < recursionLimit) (hu : un + 8 < cLine)
    (ret : ∀ (t : Tok) (h' : Heap) (tk' : Nat), lo ≤ tk' → Fr h₀ L h' m → News h₀ L h' news → Q (R t) { s with heap := h', toks := tk' }) :
    wpAny (model prog w) (ktrTop dp un gd cn cs L a ccd cl outer) (call (.ref f) vs) Q E s := C _ _ _ _ _ _ _ _ _ _ _ _ _ _ _ _ _ B F X N T hk hd hu ret
theorem ne_self (x : Str) : ¬ ((x != x) = true) := by simp
/-- a mark: the walk stops here -/
def Here (P : Prop) : Prop := P
theorem Here.out {P : Prop} (h : Here P) : P := h
theorem Here.mk {P : Prop} (h : P) : Here P := h
end
end Mine

namespace Mine
section
set_option maxRecDepth 100000
theorem plainAttrs_pat : PlainAttrs "re.Pattern" :=
  ⟨⟨"object.__getattribute__", by rw [typeLookup_type, builtinLookup_eq_fast]; kernel_rfl, by decide +kernel⟩, by rw [typeLookup_type, builtinLookup_eq_fast]; kernel_rfl⟩
theorem slot_pat_search : Slot "re.Pattern" "search" "re.Pattern.search" :=
  .of (owner := "re.Pattern") (n := "search") (by rw [typeLookup_type, builtinLookup_eq_fast]; kernel_rfl) (by decide +kernel) (by decide +kernel) (by decide +kernel)
    (by first | exact .inl (by decide +kernel) | exact .inr (by decide +kernel)) (by rw [isSubtype_type]; kernel_rfl)
theorem type_pat_search : typeOf (.builtin "re.Pattern.search") = pure (.type "method_descriptor") := by show builtinType _ = _; rw [builtinType_eq_fast]; kernel_rfl
theorem entry_pat_search : entryFor table "re.Pattern.search" = some Builtin.«re.Pattern.search» := entryFor_of_tree (by kernel_rfl)
theorem args_pat_search (a b : Value) : argsOk "re.Pattern.search" ⟨[a, b], []⟩ := by unfold argsOk; kernel_rfl

open PySem.Builtin PySem.Builtin.Re
theorem named_search (v : Value) : reNamed "re.Pattern.search" "search" ["string", "pos", "endpos"] 1 [v] [] = pure [some v, none, none] := by
  with_unfolding_all rfl

def patCode : Array Nat := #[14, 14, 4, 1, 1, 9, 4294957567, 0, 0, 0, 0, 0, 0, 0, 0, 13, 11, 9, 4294957567, 0, 0, 0, 0, 0, 0, 0, 0, 1]
/-- a sign that is no control sign -/
def signOk (c : Nat) : Bool := c == 9 || c == 10 || c == 13 || 32 ≤ c
def noCtl (x : Str) : Prop := ∀ c ∈ x.cps.toList, c < 256 ∧ (c = 9 ∨ c = 10 ∨ c = 13 ∨ 32 ≤ c)

theorem inSet_no (c : Nat) (h : c = 9 ∨ c = 10 ∨ c = 13 ∨ 32 ≤ c) (seen : Sre.Seen) : ∃ seen', Sre.inSet patCode c patCode.size 5 true seen = .ok (false, seen') := by
  have hb : (decide (c < 256) && ((patCode.getD (5 + (1 + c / 32)) 0).testBit (c % 32))) = false := by
    by_cases hc : c < 256
    · have : ∀ c : Fin 256, (c.val = 9 ∨ c.val = 10 ∨ c.val = 13 ∨ 32 ≤ c.val) → ((patCode.getD (5 + (1 + c.val / 32)) 0).testBit (c.val % 32)) = false := by decide +kernel
      rw [this ⟨c, hc⟩ h, Bool.and_false]
    · rw [decide_eq_false hc, Bool.false_and]
  refine ⟨(seen.add 9).add 0, ?_⟩
  show (if (decide (c < 256) && ((patCode.getD (5 + (1 + c / 32)) 0).testBit (c % 32))) = true then _ else _) = _
  rw [hb, if_neg Bool.false_ne_true]
  rfl
theorem admitted_none (m : Sre.M) (hm : m.code = patCode) (ht : ∀ c ∈ m.text.toList, c = 9 ∨ c = 10 ∨ c = 13 ∨ 32 ≤ c) (hl : m.lim ≤ m.text.size) : ∀ (fuel s : Nat) (seen : Sre.Seen), ∃ seen', Sre.M.admitted m fuel s seen = .ok (none, seen')
  | 0, _, seen => ⟨seen, rfl⟩
  | fuel + 1, s, seen => by
    unfold Sre.M.admitted
    by_cases hs : s ≥ m.lim
    · rw [if_pos hs]; exact ⟨seen, rfl⟩
    · rw [if_neg hs]
      have hlt : s < m.text.size := by omega
      have hg : m.text.getD s 0 ∈ m.text.toList := by
        simp only [Array.getD, hlt, dif_pos]
        exact Array.mem_toList_iff.mpr (Array.getElem_mem hlt)
      obtain ⟨seen', e⟩ := inSet_no (m.text.getD s 0) (ht _ hg) seen
      rw [hm, e]
      exact admitted_none m hm ht hl fuel (s + 1) seen'

def Said (m : Sre.M) : Prop := m.answer = some false ∧ m.frames = [] ∧ m.outcome = none
theorem from_said (m : Sre.M) (s : Nat) (first : Bool) (hm : m.code = patCode) (ht : ∀ c ∈ m.text.toList, c = 9 ∨ c = 10 ∨ c = 13 ∨ 32 ≤ c) (hl : m.lim ≤ m.text.size) (hf : m.frames = []) (ho : m.outcome = none) : Said (m.attemptFrom s first) := by
  unfold Sre.M.attemptFrom
  have h1 : m.hasFirstSet = true := by unfold Sre.M.hasFirstSet; rw [hm]; decide +kernel
  rw [h1]
  obtain ⟨seen', e⟩ := admitted_none m hm ht hl (m.lim + 1 - s) s m.seen
  rw [e]
  exact ⟨rfl, hf, ho⟩
theorem search_said (g : Nat) (text : Array Nat) (ht : ∀ c ∈ text.toList, c = 9 ∨ c = 10 ∨ c = 13 ∨ 32 ≤ c) : Said (Sre.forSearch patCode text g 0 text.size false) := by
  unfold Sre.forSearch
  dsimp only
  split
  · exact ⟨rfl, rfl, rfl⟩
  · exact from_said _ _ _ rfl ht (Nat.le_refl _) rfl rfl
theorem run_said {m : Sre.M} (h : Said m) : m.runFor reTurnSteps = { m with outcome := some .failed } := by
  obtain ⟨h1, h2, h3⟩ := h
  have e : m.step = { m with outcome := some .failed } := by
    unfold Sre.M.step
    rw [h3, h1, h2]
    rfl
  show Sre.M.runFor 4 m = _
  unfold Sre.M.runFor
  rw [h3, e]
  rfl
theorem drive_said {m : Sre.M} (h : Said m) : reDrive (2 ^ 64) m = pure { m with outcome := some .failed } := by
  show reDrive (18446744073709551615 + 1) m = _
  unfold reDrive
  dsimp only
  rw [run_said h]
  rfl

section
variable {prog : Program} {w : World} {A : Around} {E : Value → Shared → Prop} {s : Shared}
theorem rules_all {M : Model} (c : Nat → Bool) (f : Nat → String) {Q : PUnit → Shared → Prop} (h : Q PUnit.unit s) : ∀ l : List Nat,
    wpAny M A (forIn l PUnit.unit fun i _ => if c i = true then (do rule (f i); pure (ForInStep.yield PUnit.unit)) else pure (ForInStep.yield PUnit.unit)) Q E s
  | [] => wpAny_pure h
  | i :: l => by
    rw [List.forIn_cons]
    refine wpAny_bind ?_
    cases c i with
    | true =>
      rw [if_pos rfl]
      exact wpAny_bind (wpAny_rule (wpAny_pure (rules_all c f h l)))
    | false =>
      rw [if_neg Bool.false_ne_true]
      exact wpAny_pure (rules_all c f h l)
theorem run_end {m : Sre.M} (h : Said m) {Q : Option Sre.M → Shared → Prop} (hq : Q none s) : wpAny (model prog w) A (reRunToEnd m) Q E s := by
  unfold reRunToEnd
  rw [drive_said h]
  refine wpAny_bind (wpAny_pure ?_)
  refine wpAny_bind (rules_all m.seen.has (fun i => Sre.names.getD i "") ?_ _)
  exact wpAny_pure hq

def codeVals : Array Value := #[.int 14 0, .int 14 0, .int 4 0, .int 1 0, .int 1 0, .int 9 0, .int 4294957567 0, .int 0 0, .int 0 0, .int 0 0, .int 0 0, .int 0 0, .int 0 0, .int 0 0, .int 0 0, .int 13 0, .int 11 0, .int 9 0, .int 4294957567 0, .int 0 0, .int 0 0, .int 0 0, .int 0 0, .int 0 0, .int 0 0, .int 0 0, .int 0 0, .int 1 0]
theorem search_none {x : Str} {t : Tok} {p c : Addr} {fs : Array Value} {n : Nat} {Q : Value → Shared → Prop}
    (hp : s.heap.get? p = some { cls := .type "re.Pattern", data := .fields fs }) (hf5 : fs.getD 5 .none = .ref c) (hf6 : fs.getD 6 .none = .int 0 0)
    (hc : s.heap.get? c = some { cls := .type "tuple", data := .seq codeVals n })
    (hx : ∀ c ∈ x.cps.toList, c = 9 ∨ c = 10 ∨ c = 13 ∨ 32 ≤ c) (hl : x.length ≤ 1000000) (h : Q .none s) : wpAny (model prog w) A (call (.builtin "re.Pattern.search") [.ref p, .str x t]) Q E s := by
  have hT : s.TypeIs (.ref p) "re.Pattern" := ⟨_, hp, rfl⟩
  refine wpAny_call (codeAny_call_builtin slot_pat_search.plain entry_pat_search (slot_pat_search.check _ _ _ _ _ _ _ _ hT (args_pat_search _ _) ?_))
  show wpAny _ _ (Builtin.«re.Pattern.search» ⟨[.ref p, .str x t], []⟩) _ _ _
  unfold Builtin.«re.Pattern.search» reTarget
  dsimp only
  rw [named_search]
  refine wpAny_bind (wpAny_bind (wpAny_pure ?_))
  dsimp only
  refine wpAny_bind (wpAny_pure (wpAny_bind (wpAny_pure ?_)))
  refine wpAny_bind (wpAny_fieldsOf hp rfl ?_)
  have e1 : reTextOf (.str x t) = pure (x.cps, 0) := rfl
  rw [e1]
  refine wpAny_bind (wpAny_pure ?_)
  rw [hf6]
  show wpAny _ _ (reNoCollectionInside (.str x t) 0 >>= fun _ => reRawItems (fs.getD 5 .none) >>= fun is => pure _) _ _ _
  have e2 : reNoCollectionInside (.str x t) 0 = pure () := rfl
  rw [e2, hf5]
  refine wpAny_bind (wpAny_pure (wpAny_bind ?_))
  unfold reRawItems
  refine wpAny_bind (wpAny_seqItems hc rfl (wpAny_pure (wpAny_pure ?_)))
  have e3 : Array.map (fun x => Int.toNat x) (Array.map reRawOf ((some codeVals).getD #[])) = patCode := by decide +kernel
  rw [e3]
  have e4 : Min.min (2 ^ 63 - 1 : Int).toNat x.cps.size = x.cps.size := by
    have : x.cps.size ≤ 1000000 := hl
    have h63 : (2 ^ 63 - 1 : Int).toNat = 9223372036854775807 := by decide
    rw [h63]; omega
  have e5 : Min.min (0 : Int).toNat x.cps.size = 0 := by show Min.min 0 _ = 0; omega
  unfold reAnswer
  dsimp only
  rw [e4, e5]
  refine wpAny_bind (run_end ?_ ?_)
  · exact search_said _ x.cps hx
  · exact wpAny_pure h
end
section
variable {M : Model} {A : Around} {E : Value → Shared → Prop} {s : Shared}
theorem getMethod_search {p : Addr} {fs : Array Value} {pl : Sem Bool} {Q : Value × List Value → Shared → Prop} (hp : s.heap.get? p = some { cls := .type "re.Pattern", data := .fields fs })
    (h : Q (.builtin "re.Pattern.search", [.ref p]) s) : wpAny M A (getMethod (.ref p) "search" pl) Q E s :=
  getMethod_builtin ⟨_, hp, rfl⟩ plainAttrs_pat slot_pat_search type_pat_search (fun a e => by cases e; exact ⟨_, hp, rfl⟩) h
end
end
end Mine

namespace Mine
section
set_option maxRecDepth 100000
theorem miss_keys : typeLookup (.type "list") "keys" = pure none := by rw [typeLookup_type, builtinLookup_eq_fast]; kernel_rfl
theorem entry_loop : entryFor table "dict.update.loop" = some Builtin.«dict.update.loop» := entryFor_of_tree (by kernel_rfl)
theorem loop_plain : plainId "dict.update.loop" = true := by decide +kernel
section
variable {prog : Program} {w : World} {A : Around} {E : Value → Shared → Prop} {s : Shared}

theorem getAttrQ_keys {a : Addr} {xs : Array Value} {k : Nat} {sl : Array (Option Value)} {Q : Option Value → Shared → Prop}
    (hx : s.heap.get? a = some { cls := .type "list", dict := none, data := .seq xs k, slots := sl }) (hA : A.handled = none)
    (h : ∀ h' tk, (∀ b o, s.heap.get? b = some o → h'.get? b = some o) → Q none { s with heap := h', toks := tk }) :
    wpAny (model prog w) A (getAttr? (.ref a) "keys") Q E s := by
  obtain ⟨hp, g, d, tk, os⟩ := s
  have hT : ∀ tk', (⟨hp, g, d, tk', os⟩ : Shared).TypeIs (.ref a) "list" := fun _ => ⟨_, hx, rfl⟩
  have f1 := sub_AttributeError
  have f3 := F.slot_list_getattribute.lookup
  have f4 := F.slot_list_getattribute.bind (.ref a)
  have f5 := am_list_getattr_none
  have hname : (["__module__", "__name__", "__qualname__", "__doc__", "__annotations__"] : List Str).contains (Str.ofString "keys") = false := by decide +kernel
  unfold getAttr? getAttrBy? getAttrBy
  repeat (any_goals (first | assumption | exact hT _ | ((with_reducible show wpAny _ _ (call (Value.builtin "list.__getattribute__") _ _) _ _ _); refine call_meets F.slot_list_getattribute (hT _) am_entry_list_getattribute (F.args_list_getattribute_2 _ _) (meets_getattribute_miss_list a xs k sl _ _ miss_keys hname) ⟨hx, hA, fun h' tk' e hx' => ?_⟩) | wp_step))
  obtain ⟨t', u', he⟩ := hx'.there
  show wpAny _ _ (getattributeRaised _ _ _ _ _ _ _) _ _ _
  unfold getattributeRaised
  repeat (any_goals (first | assumption | wp_step))
  exact h _ _ hx'.keeps

/-- the pairs as the list's tuples bear them -/
def PairsAt (h : Heap) (ys : List Value) (ps : List (Str × Tok × Value)) : Prop :=
  ys.length = ps.length ∧ ∀ (i : Nat) (p : Str × Tok × Value), ps[i]? = some p → ∃ (T : Addr) (n : Nat), ys[i]? = some (Value.ref T) ∧ h.get? T = some { cls := .type "tuple", data := .seq #[.str p.1 p.2.1, p.2.2] n }
def storedAll (ps : List (Str × Tok × Value)) : List (Str × Value) := ps.foldl (fun kvs p => PySem.stored kvs p.1 p.2.2) []
theorem storedAll_snoc (ps : List (Str × Tok × Value)) (p : Str × Tok × Value) : storedAll (ps ++ [p]) = PySem.stored (storedAll ps) p.1 p.2.2 := by simp [storedAll]
theorem storedAll_len (ps : List (Str × Tok × Value)) : (storedAll ps).length ≤ ps.length := by
  have key : ∀ (l : List (Str × Tok × Value)) (acc : List (Str × Value)), (l.foldl (fun kvs p => PySem.stored kvs p.1 p.2.2) acc).length ≤ acc.length + l.length := by
    intro l
    induction l with
    | nil => intro acc; simp
    | cons a r ih =>
      intro acc
      have h1 := ih (PySem.stored acc a.1 a.2.2)
      have h2 := stored_length_le acc a.1 a.2.2
      simp only [List.foldl_cons, List.length_cons]
      omega
  simpa [storedAll] using key ps []

theorem pairItems_tuple {T : Addr} {n : Nat} {a b : Value} {Q : List Value → Shared → Prop} (hT : s.heap.get? T = some { cls := .type "tuple", data := .seq #[a, b] n }) (h : Q [a, b] s) : wpAny (model prog w) A (Builtin.Dict.pairItems (.ref T)) Q E s := by
  unfold Builtin.Dict.pairItems
  refine wpAny_bind (wpAny_typeOf (T := "tuple") ⟨_, hT, rfl⟩ ?_)
  rw [if_pos (by decide)]
  exact wpAny_bind (wpAny_seqItems hT rfl (wpAny_pure h))

theorem update_loop {d I ax : Addr} {ys : List Value} {ps : List (Str × Tok × Value)} {R : Result → Shared → Prop} (hA : A.handled = none) (hne : ax ≠ I) (hdI : d ≠ I) (hda : d ≠ ax) (hsz : ps.length ≤ sizeLine)
    (hdT : ∀ (i : Nat) (T : Addr), ys[i]? = some (Value.ref T) → T ≠ d ∧ T ≠ I) (hpl : ys.length = ps.length)
    (h : ∀ h' tk, (∀ b o, b ≠ d → b ≠ I → s.heap.get? b = some o → h'.get? b = some o) → h'.DictOf (PySem.strKind prog w) d (storedAll ps) → R (.ok (.ret .none)) { s with heap := h', toks := tk }) :
    ∀ (k i : Nat) (h₁ : Heap) (tk : Nat), i + k = ps.length → (∀ b o, b ≠ d → b ≠ I → s.heap.get? b = some o → h₁.get? b = some o) → (h₁.IsListIter I ax i ∧ h₁.IsList ax ys.toArray) → PairsAt h₁ ys ps → h₁.DictOf (PySem.strKind prog w) d (storedAll (ps.take i)) →
      codeAny (model prog w) A (.builtin "dict.update.loop" ⟨[.ref d, .ref I, rawInt i, .none], []⟩) R { s with heap := h₁, toks := tk } := by
  intro k
  induction k with
  | zero =>
    intro i h₁ tk hi keep hit hp hd
    refine codeAny_builtin entry_loop ?_
    rw [Around.under_plainId loop_plain]
    show wpAny _ _ (pyNext (.ref I) >>= _) _ _ _
    have hn : i = ys.toArray.size := by rw [List.size_toArray, hpl]; omega
    rw [hn] at hit
    refine wpAny_bind ((Walks.list (prog := prog) (w := w) (A := A.in1) hA I ax hne ys.toArray).done { s with heap := h₁, toks := tk } _ _ hit fun h' tk' hk => ?_)
    have ht : ps.take i = ps := List.take_of_length_le (by omega)
    rw [ht] at hd
    refine wpAny_bind (wpAny_pure (wpAny_pure (h h' tk' (fun b o h1 h2 e => hk b o (by simpa using h2) (keep b o h1 h2 e)) ?_)))
    obtain ⟨o, es, ep, ho, r⟩ := hd
    exact ⟨o, es, ep, hk d o (by simpa using hdI) ho, r⟩
  | succ k ih =>
    intro i h₁ tk hi keep hit hp hd
    refine codeAny_builtin entry_loop ?_
    rw [Around.under_plainId loop_plain]
    show wpAny _ _ (pyNext (.ref I) >>= _) _ _ _
    refine wpAny_bind ((Walks.list (prog := prog) (w := w) (A := A.in1) hA I ax hne ys.toArray).item i { s with heap := h₁, toks := tk } _ _ (by rw [List.size_toArray, hpl]; omega) hit fun v h' tk' hv hit' hk => ?_)
    have hil : i < ps.length := by omega
    have hpi : ps[i]? = some ps[i] := List.getElem?_eq_getElem hil
    obtain ⟨T, n, hy, hT⟩ := hp.2 i ps[i] hpi
    obtain ⟨hTd, hTI⟩ := hdT i T hy
    have ev : v = .ref T := by
      have hv' : ys[i]? = some v := by simpa using hv
      rw [hy] at hv'; exact (Option.some.inj hv').symm
    subst ev
    have hT' : h'.get? T = some { cls := .type "tuple", data := .seq #[.str ps[i].1 ps[i].2.1, ps[i].2.2] n } := hk T _ (by simpa using hTI) hT
    have hd' : h'.DictOf (PySem.strKind prog w) d (storedAll (ps.take i)) := by
      obtain ⟨o, es, ep, ho, r⟩ := hd
      exact ⟨o, es, ep, hk d o (by simpa using hdI) ho, r⟩
    have hlen : (storedAll (ps.take i)).length ≤ sizeLine := Nat.le_trans (storedAll_len _) (Nat.le_trans (List.length_take_le _ _) (by omega))
    dsimp only
    refine wpAny_bind (wpAny_holding (wpAny_bind (wpAny_tryCatch (pairItems_tuple hT' ?_))))
    dsimp only
    refine wpAny_holding (wpAny_dictSet_pairs (knd := PySem.strKind prog w) (strKind_is prog w ps[i].1 ps[i].2.1) hd' (fun h'' hd'' hs'' => ?_) hlen)
    refine wpAny_pure ⟨Code.quiet_builtin _ (by decide +kernel), ?_⟩
    have e : ((i : Int) + 1) = ((i + 1 : Nat) : Int) := by omega
    rw [e]
    refine ih (i + 1) h'' _ (by omega) (fun b o h1 h2 e => hs''.extBut b o h1 (hk b o (by simpa using h2) (keep b o h1 h2 e))) ?_ ?_ ?_
    · obtain ⟨⟨o, ho, r⟩, hl⟩ := hit'
      exact ⟨⟨o, hs''.extBut _ _ (Ne.symm hdI) ho, r⟩, hl.extBut hs''.extBut (Ne.symm hda)⟩
    · refine ⟨hp.1, fun j q hq => ?_⟩
      obtain ⟨T', n', hy', hT''⟩ := hp.2 j q hq
      obtain ⟨h1, h2⟩ := hdT j T' hy'
      exact ⟨T', n', hy', hs''.extBut _ _ h1 (hk T' _ (by simpa using h2) hT'')⟩
    · have et : ps.take (i + 1) = ps.take i ++ [ps[i]] := by rw [List.take_add_one, hpi]; rfl
      rw [et, storedAll_snoc]
      exact hd''

theorem dict_of_pairs {D : Addr} {ys : List Value} {n : Nat} {ps : List (Str × Tok × Value)} {Q : Value → Shared → Prop} (hA : A.handled = none)
    (hD : s.heap.get? D = some { cls := .type "list", data := .seq ys.toArray n }) (hp : PairsAt s.heap ys ps) (hsz : ps.length ≤ sizeLine)
    (h : ∀ h' tk, (∀ b o, s.heap.get? b = some o → h'.get? b = some o) → h'.DictOf (PySem.strKind prog w) s.heap.objs.size (storedAll ps) → Q (.ref s.heap.objs.size) { s with heap := h', toks := tk }) :
    wpAny (model prog w) A (call (.type "dict") [.ref D]) Q E s := by
  refine callType_codes (Q₁ := fun obj s₁ => obj = .ref s.heap.objs.size ∧ s₁ = { s with heap := s.heap.push { cls := .type "dict", data := .dict #[] } }) F.kt_called_dict (F.kt_typeCall_dict_1 _) F.entry_dict_init (kt_code_dict_new _ ⟨rfl, rfl⟩) ?_
  rintro obj s₁ ⟨rfl, rfl⟩
  have hnew : (s.heap.push { cls := .type "dict", data := .dict #[] }).DictOf (PySem.strKind prog w) s.heap.objs.size [] := Heap.DictOf.new s.heap
  have up : ∀ b o, s.heap.get? b = some o → (s.heap.push { cls := .type "dict", data := .dict #[] }).get? b = some o := fun b o e => Heap.get?_push_of_some _ e
  have hD' := up _ _ hD
  refine ⟨hnew.typeIs, F.args_dict_init_2 _ _, ?_⟩
  unfold Builtin.«dict.__init__»
  refine wpAny_bind ?_
  unfold Builtin.Dict.selfAndRest
  refine wpAny_bind (wpAny_notOrdered_dict hnew.typeIs ?_)
  show wpAny _ _ (pure (s.heap.objs.size, [Value.ref D])) _ _ _
  refine wpAny_pure ?_
  show wpAny _ _ (Builtin.Dict.updateFrom "dict.__init__" s.heap.objs.size (.ref D) [] .none) _ _ _
  unfold Builtin.Dict.updateFrom
  refine wpAny_bind (wpAny_typeOf (T := "list") ⟨_, hD', rfl⟩ ?_)
  rw [if_pos (by decide)]
  refine wpAny_bind (getAttrQ_keys hD' hA fun h₂ tk₂ keep₂ => ?_)
  rw [if_pos (show (none : Option Value).isNone = true from rfl)]
  refine wpAny_bind (wpAny_rule ?_)
  have hl₂ : h₂.IsList D ys.toArray := ⟨_, keep₂ _ _ hD', rfl, n, rfl⟩
  have hd₂ : h₂.DictOf (PySem.strKind prog w) s.heap.objs.size [] := by
    obtain ⟨o, es, ep, ho, r⟩ := hnew
    exact ⟨o, es, ep, keep₂ _ _ ho, r⟩
  refine wpAny_bind (wpAny_pyIter_list hl₂ ?_)
  refine wpAny_pure ⟨Code.quiet_builtin _ (by decide +kernel), ?_⟩
  have hDlt : D < s.heap.objs.size := Heap.lt_size hD
  have hdlt : s.heap.objs.size < h₂.objs.size := by
    obtain ⟨o, es, ep, ho, _⟩ := hd₂
    exact Heap.lt_size ho
  have old : ∀ b o, s.heap.get? b = some o → h₂.get? b = some o := fun b o e => keep₂ b o (up b o e)
  refine update_loop (A := A.in1) (s := { s with heap := h₂.push { cls := .type "list_iterator", data := .fields #[.ref D, .int 0 0] }, toks := tk₂ }) (ps := ps) (ys := ys) (ax := D) (I := h₂.objs.size) (d := s.heap.objs.size)
    hA (Nat.ne_of_lt (Nat.lt_trans hDlt hdlt)) (Nat.ne_of_lt hdlt) (Nat.ne_of_gt hDlt) hsz (fun i T hy => ?_) hp.1 (fun h' tk keep' hd' => ?_) ps.length 0 _ tk₂ (Nat.zero_add _) (fun _ _ _ _ e => e) ⟨⟨_, Heap.get?_push_size _ rfl, rfl, rfl⟩, hl₂.push _⟩ ⟨hp.1, fun i q hq => ?_⟩ ?_
  · have hil : i < ps.length := by
      have := (List.getElem?_eq_some_iff.mp hy).1
      rw [hp.1] at this; exact this
    obtain ⟨T', n', hy', hT'⟩ := hp.2 i ps[i] (List.getElem?_eq_getElem hil)
    rw [hy] at hy'
    cases hy'
    have hlt := Heap.lt_size hT'
    exact ⟨Nat.ne_of_lt hlt, Nat.ne_of_lt (Nat.lt_trans hlt hdlt)⟩
  · refine ⟨rfl, h h' tk (fun b o e => ?_) hd'⟩
    have hlt := Heap.lt_size e
    exact keep' b o (Nat.ne_of_lt hlt) (Nat.ne_of_lt (Nat.lt_trans hlt hdlt)) (Heap.get?_push_of_some _ (old b o e))
  · obtain ⟨T', n', hy', hT'⟩ := hp.2 i q hq
    exact ⟨T', n', hy', Heap.get?_push_of_some _ (old _ _ hT')⟩
  · exact hd₂.push _

theorem dict_made {h₀ : Heap} {L D : Addr} {m : Str → Option Value} {news : List (Addr × Obj)} {ys : List Value} {ps : List (Str × Tok × Value)} {Q : Value → Shared → Prop} (F : Fr h₀ L s.heap m) (N : News h₀ L s.heap news) (hbig : h₀.NoLimit) (hA : A.handled = none)
    (hD : (D, LCg.lst ys) ∈ news) (hp : PairsAt s.heap ys ps) (hsz : ps.length ≤ sizeLine)
    (k : ∀ d o h' tk, Fr h₀ L h' m → News h₀ L h' ((d, o) :: news) → (d == sysModules) = false → o.IsDictOf (PySem.strKind prog w) (storedAll ps) → Q (.ref d) { s with heap := h', toks := tk }) :
    wpAny (model prog w) A (call (.type "dict") [.ref D]) Q E s := by
  refine dict_of_pairs hA (N _ hD).1 hp hsz fun h' tk keep hd => ?_
  obtain ⟨o, ho, hdo⟩ := Heap.dictOf_iff.mp hd
  refine k _ o h' tk (F.keeps keep) (fun p hp => ?_) (F.notModules (modules_low hbig)) hdo
  rcases List.mem_cons.mp hp with rfl | hp
  · exact ⟨ho, Nat.ne_of_gt F.ns.lt, next_is_new F⟩
  · exact ⟨keep _ _ (N p hp).1, (N p hp).2⟩
end
end
end Mine

namespace Mine
section
set_option maxRecDepth 100000
section
variable {prog : Program} {w : World} {A : Around} {E : Value → Shared → Prop} {s : Shared} {h₀ : Heap} {L : Addr} {m : Str → Option Value} {env : Env}

def EntriesOf (prog : Program) (w : World) (o : Obj) (es : Array DictEntry) (ep : Nat) (kvs : List (Str × Value)) : Prop :=
  o.ExactDict ∧ o.data = .dict es ep ∧ KeysOf (PySem.strKind prog w) es ∧ Pairs (PySem.strKind prog w) es.toList kvs ∧ (kvs.map (·.1)).Nodup
theorem EntriesOf.at {o : Obj} {es : Array DictEntry} {ep : Nat} {kvs : List (Str × Value)} (x : EntriesOf prog w o es ep kvs) {h : Heap} {d : Addr} (e : h.get? d = some o) : h.DictAt (PySem.strKind prog w) d kvs ep := ⟨o, es, e, x⟩
theorem keysO (hh : A.handled = none) (I d : Addr) (hne : d ≠ I) {o : Obj} {es : Array DictEntry} {ep : Nat} {kvs : List (Str × Value)} (x : EntriesOf prog w o es ep kvs) :
    Walks prog w A I [I, d] [I] kvs.length (fun i v => ∃ k y, kvs[i]? = some (k, y) ∧ (PySem.strKind prog w).is k v = true) (fun i h => h.IsKeyIter I d i kvs.length ep ∧ h.get? d = some o) :=
  let W : Walks prog w A I [I, d] [I] kvs.length _ _ := Walks.dictKeys (knd := PySem.strKind prog w) hh I d hne kvs ep
  { sub := W.sub
    frame := fun i h h' st hk => ⟨(W.frame i h h' ⟨st.1, x.at st.2⟩ hk).1, hk d (by simp) o st.2⟩
    item := fun i s Q E hi st hQ => W.item i s Q E hi ⟨st.1, x.at st.2⟩ fun v h' tk hP st' hk => hQ v h' tk hP ⟨st'.1, hk d o (by simpa using hne) st.2⟩ hk
    done := fun s Q E st hQ => W.done s Q E ⟨st.1, x.at st.2⟩ hQ
    self := fun i s Q E st hQ => W.self i s Q E ⟨st.1, x.at st.2⟩ hQ }

def KeyAt (prog : Program) (w : World) (kvs : List (Str × Value)) (i : Nat) (v : Value) : Prop := ∃ k y, kvs[i]? = some (k, y) ∧ (PySem.strKind prog w).is k v = true
/-- what a comprehension over a dict asks of its source -/
def DictSrc (prog : Program) (w : World) (A : Around) (h₀ : Heap) (L : Addr) (m : Str → Option Value) (env : Env) (elt : Expr) (x : Str) (scope : Scope) (cl : List (Str × Addr)) (Q : Value → Shared → Prop) (xv : Value) (s₁ : Shared) : Prop :=
  ∃ d o kvs news, xv = .ref d ∧ A.handled = none ∧ (d == sysModules) = false ∧ Fr h₀ L s₁.heap m ∧ News h₀ L s₁.heap news ∧ (d, o) ∈ news ∧ Obj.IsDictOf (PySem.strKind prog w) o kvs ∧ kvs.length ≤ sizeLine ∧
    ∀ s₂ : Shared, (∃ h, s₂ = { s₁ with heap := h }) → LCg.CompRest prog w A h₀ L m env elt x scope cl s₂ (fun nw => (d, o) ∈ nw) (KeyAt prog w kvs) (LCg.FinE h₀ L m s₂ Q) kvs.length 0 [] news

theorem comp_dict {elt iter : Expr} {x : Str} {px : Pos} {scope : Scope} {cl : List (Str × Addr)} {pos : Pos} {Q : Value → Shared → Prop} (_F₀ : Fr h₀ L s.heap m)
    (hclos : closureFor scope env = pure cl) (hcell : ∀ y ∈ scope.names, y.2 ≠ .cell) (hkind : scope.kind = .function)
    (hnames : ∀ y ∈ scope.names, y.2 = .local → scope.names.lookup y.1 = some .local) (hx : scope.names.lookup x = some .local)
    (h : wpAny (model prog w) A (eval iter env) (DictSrc prog w A h₀ L m env elt x scope cl Q) E s)
    (hs : ∀ x, foldedSetIterable iter env x = pure x := by intro _; rfl) :
    wpAny (model prog w) A (eval (.ListComp elt [⟨.Name x px, iter, [], 0⟩] scope pos) env) Q E s := by
  rw [eval_ListComp]
  refine wpAny_comprehension_free (use := none) rfl hs hclos hkind hnames (wpAny_mono h (fun xv s₁ h₁ => ?_) fun _ _ e => e)
  obtain ⟨d, o, kvs, news, rfl, hh, hsm, F, N, hm, hd, hsz, R⟩ := h₁
  obtain ⟨es, ep, X⟩ := hd
  have X : EntriesOf prog w o es ep kvs := X
  have ho := (N _ hm).1
  have hlt : d < s₁.heap.objs.size := Heap.lt_size ho
  refine wpAny_pyIter_dict (knd := PySem.strKind prog w) hsm (X.at ho) ?_
  have up : ∀ b x, s₁.heap.get? b = some x → (s₁.heap.push { cls := .type "dict_keyiterator", data := .fields #[.ref d, .int 0 0, .int kvs.length 0, .int ep 0] }).get? b = some x := fun b x e => Heap.get?_push_of_some _ e
  refine LCg.block_U (keysO (A := A) hh s₁.heap.objs.size d (Nat.ne_of_lt hlt) X) hsz (fun i h st => by obtain ⟨o, e, _⟩ := st.1; exact ⟨o, e⟩) (fun i h h' oI nw st e e' _ N' S' => ?_) hcell hkind hx ⟨⟨_, Heap.get?_push_size _ rfl, rfl, rfl⟩, up _ _ ho⟩ (fun b hb => ?_)
    (F.keeps up) (N.grown up) (Nat.ne_of_lt F.ns.lt) (next_is_new F) (fun p hp => Nat.ne_of_lt (Heap.lt_size (N p hp).1)) hm (R _ ⟨_, rfl⟩) ?_
  · refine ⟨?_, (N' _ S').1⟩
    obtain ⟨o', q, r⟩ := st.1
    rw [e] at q; cases q
    exact ⟨oI, e', r⟩
  · show b < (s₁.heap.push _).objs.size
    rw [Heap.size_push]
    rcases List.mem_cons.mp hb with rfl | hb
    · exact Nat.lt_succ_self _
    · rw [List.mem_singleton.mp hb]; exact Nat.lt_succ_of_lt hlt
  · intro D C h tk m' ys news' F' N' o1 hn hC₀ hD₀ hCL hDL hCD offC fin
    refine ⟨m', hn, fun h'' hs'' => fin D h'' tk (F'.change hs'' hCL hC₀) (fun p hp => ?_) o1⟩
    refine ⟨hs''.extBut _ _ ?_ (N' p hp).1, (N' p hp).2⟩
    rcases List.mem_cons.mp hp with rfl | hp
    · exact Ne.symm hCD
    · exact offC p hp

abbrev tupOf (a b : Value) (n : Nat) : Obj := { cls := .type "tuple", data := .seq #[a, b] n }
/-- the tuples made so far -/
def OwnAt (own : List (Addr × Obj)) (ys : List Value) (ps : List (Str × Tok × Value)) : Prop :=
  ys.length = ps.length ∧ ∀ (i : Nat) (p : Str × Tok × Value), ps[i]? = some p → ∃ (T : Addr) (n : Nat), ys[i]? = some (Value.ref T) ∧ (T, tupOf (.str p.1 p.2.1) p.2.2 n) ∈ own
theorem OwnAt.pairs {h h₀ : Heap} {L : Addr} {own news : List (Addr × Obj)} {ys : List Value} {ps : List (Str × Tok × Value)} (x : OwnAt own ys ps) (N : News h₀ L h news) (hs : ∀ p ∈ own, p ∈ news) : PairsAt h ys ps :=
  ⟨x.1, fun i p hp => by obtain ⟨T, n, hy, hm⟩ := x.2 i p hp; exact ⟨T, n, hy, (N _ (hs _ hm)).1⟩⟩
/-- the pairs are the dict's, turned -/
def Turned (kvs : List (Str × Value)) (ps : List (Str × Tok × Value)) : Prop :=
  ps.length = kvs.length ∧ ∀ (i : Nat) (p : Str × Tok × Value), ps[i]? = some p → ∃ (k : Str) (t u : Tok), kvs[i]? = some (k, .str p.1 u) ∧ p.2.2 = .str k t

theorem rest_dict {elt : Expr} {x : Str} {scope : Scope} {cl : List (Str × Addr)} {news : List (Addr × Obj)} {Fin : List Value → List (Addr × Obj) → Prop} {kvs : List (Str × Value)} {d : Addr} {o : Obj} (hm : (d, o) ∈ news) (hall : ∀ (i : Nat) (k : Str) (y : Value), kvs[i]? = some (k, y) → ∃ nm u, y = .str nm u)
    (turn : ∀ k nm t u I oI C oC D m₂ ys own h tk (E' : Value → Shared → Prop) (Q' : Value → Shared → Prop), (k, Value.str nm u) ∈ kvs → LCg.NsObj oC m₂ → m₂ x = some (.str k t) → Fr h₀ L h m → News h₀ L h ((I, oI) :: (C, oC) :: (D, LCg.lst ys) :: (news ++ own)) →
      (∀ T n h' tk' t' t'', Fr h₀ L h' m → News h₀ L h' ((T, tupOf (.str nm t'') (.str k t') n) :: (I, oI) :: (C, oC) :: (D, LCg.lst ys) :: (news ++ own)) → T ≠ I → T ≠ C → T ≠ D → Q' (.ref T) { s with heap := h', toks := tk' }) →
      wpAny (model prog w) A (eval elt (compEnvC scope cl C env)) Q' E' { s with heap := h, toks := tk })
    (fin : ∀ ys ps own, OwnAt own ys ps → Turned kvs ps → Fin ys (news ++ own)) : LCg.CompRest prog w A h₀ L m env elt x scope cl s (fun nw => (d, o) ∈ nw) (KeyAt prog w kvs) Fin kvs.length 0 [] news := by
  have key : ∀ (j i : Nat) (ys : List Value) (ps : List (Str × Tok × Value)) (own : List (Addr × Obj)), i + j = kvs.length → OwnAt own ys ps → Turned (kvs.take i) ps → LCg.CompRest prog w A h₀ L m env elt x scope cl s (fun nw => (d, o) ∈ nw) (KeyAt prog w kvs) Fin j i ys (news ++ own) := by
    intro j
    induction j with
    | zero =>
      intro i ys ps own hi ho ht
      have e : kvs.take i = kvs := List.take_of_length_le (by omega)
      rw [e] at ht
      exact LCg.CompRest.zero (fin ys ps own ho ht)
    | succ j ih =>
      intro i ys ps own hi ho ht
      refine LCg.CompRest.succ ?_
      intro v I oI C oC D m₂ h tk E' hv hC hx F N off ne
      obtain ⟨k, y, hk, hv⟩ := hv
      obtain ⟨nm, u, rfl⟩ := hall i k y hk
      obtain ⟨t, rfl⟩ := Value.isStrOf_shape hv
      refine turn k nm t u I oI C oC D m₂ ys own h tk E' _ (List.mem_of_getElem? hk) hC hx F N fun T n h' tk' t' t'' F' N' hTI hTC hTD => ?_
      refine ⟨h', tk', news ++ ((T, tupOf (.str nm t'') (.str k t') n) :: own), rfl, F', fun p hp => N' p ?_, LCg.Off3.of fun p hp => ?_, List.mem_append_left _ hm, ?_⟩
      · simp only [List.mem_cons, List.mem_append] at hp ⊢
        rcases hp with rfl | rfl | rfl | hp | rfl | hp
        · exact .inr (.inl rfl)
        · exact .inr (.inr (.inl rfl))
        · exact .inr (.inr (.inr (.inl rfl)))
        · exact .inr (.inr (.inr (.inr (.inl hp))))
        · exact .inl rfl
        · exact .inr (.inr (.inr (.inr (.inr hp))))
      · simp only [List.mem_cons, List.mem_append] at hp
        rcases hp with hp | rfl | hp
        · exact off.mem p (List.mem_append_left _ hp)
        · exact ⟨hTI, hTC, hTD⟩
        · exact off.mem p (List.mem_append_right _ hp)
      · have hlen : (kvs.take i).length = i := by rw [List.length_take]; omega
        have hpl : ps.length = i := by rw [ht.1, hlen]
        refine ih (i + 1) (ys ++ [.ref T]) (ps ++ [(nm, t'', .str k t')]) ((T, tupOf (.str nm t'') (.str k t') n) :: own) (by omega) ⟨by simp [ho.1], fun a p hp => ?_⟩ ⟨by rw [List.length_append, hpl, List.length_take]; simp; omega, fun a p hp => ?_⟩
        · by_cases ha : a < ps.length
          · rw [List.getElem?_append_left ha] at hp
            obtain ⟨T', n', hy', hm'⟩ := ho.2 a p hp
            exact ⟨T', n', by rw [List.getElem?_append_left (by rw [ho.1]; exact ha)]; exact hy', List.mem_cons_of_mem _ hm'⟩
          · have ha' : a = ps.length := by
              have := (List.getElem?_eq_some_iff.mp hp).1
              rw [List.length_append] at this
              simp at this; omega
            subst ha'
            rw [List.getElem?_append_right (Nat.le_refl _)] at hp
            simp at hp
            subst hp
            exact ⟨T, n, by rw [← ho.1, List.getElem?_append_right (Nat.le_refl _)]; simp, List.mem_cons_self ..⟩
        · by_cases ha : a < ps.length
          · rw [List.getElem?_append_left ha] at hp
            obtain ⟨k', t₁, u₁, hk', e'⟩ := ht.2 a p hp
            refine ⟨k', t₁, u₁, ?_, e'⟩
            rw [List.getElem?_take_of_lt (by omega)] at hk' ⊢
            exact hk'
          · have ha' : a = ps.length := by
              have := (List.getElem?_eq_some_iff.mp hp).1
              rw [List.length_append] at this
              simp at this; omega
            subst ha'
            rw [List.getElem?_append_right (Nat.le_refl _)] at hp
            simp at hp
            subst hp
            exact ⟨k, t', u, by rw [List.getElem?_take_of_lt (by omega), hpl]; exact hk, rfl⟩
  have := key kvs.length 0 [] [] [] (by omega) ⟨rfl, fun i p hp => by simp at hp⟩ ⟨by simp, fun i p hp => by simp at hp⟩
  rw [List.append_nil] at this
  exact this
end
end
end Mine

namespace Mine
section
set_option maxRecDepth 100000
section
variable {prog : Program} {w : World} {A : Around} {E : Value → Shared → Prop} {s : Shared} {h₀ : Heap} {L : Addr} {env : Env}

def TwoJ (place : Nat → Int) (found : Nat → Str) (n : Nat) (nP nF nW nE : Str) (m₀ : Str → Option Value) (news : List (Addr × Obj)) (r : Nat) (m₁ : Str → Option Value) (nw : List (Addr × Obj)) : Prop :=
  nw = news ∧ ∃ (i : Nat) (t1 t2 : Tok) (we ee : Option Value), i + r = n ∧ m₁ = fun y => if y = nP then some (.int (place i) t2) else if y = nF then some (.str (found i) t1) else if y = nW then we else if y = nE then ee else m₀ y
/-- a while over a place and a text that grows, by the number of turns; two names more are stored and forgotten -/
theorem while_two {test : Expr} {body : List Stmt} {pos : Pos} {m₀ : Str → Option Value} {nP nF nW nE : Str} {news : List (Addr × Obj)} {t1 t2 : Tok} {Q : Flow → Shared → Prop} (place : Nat → Int) (found : Nat → Str) (n : Nat) {p0 : Int} {f0 : Str} (hp0 : p0 = place 0) (hf0 : f0 = found 0)
    (F : Fr h₀ L s.heap (fun y => if y = nP then some (.int p0 t2) else if y = nF then some (.str f0 t1) else m₀ y)) (N : News h₀ L s.heap news)
    (hPW : nW ≠ nP) (hPE : nE ≠ nP) (hFW : nW ≠ nF) (hFE : nE ≠ nF) (hWE : nE ≠ nW)
    (turn : ∀ i, i < n → ∀ h tk t1 t2 we ee (Q' : Flow → Shared → Prop),
      Fr h₀ L h (fun y => if y = nP then some (.int (place i) t2) else if y = nF then some (.str (found i) t1) else if y = nW then we else if y = nE then ee else m₀ y) → News h₀ L h news →
      (∀ h' tk' t1' t2' we' ee', Fr h₀ L h' (fun y => if y = nP then some (.int (place (i + 1)) t2') else if y = nF then some (.str (found (i + 1)) t1') else if y = nW then we' else if y = nE then ee' else
          (if y = nP then some (.int (place i) t2) else if y = nF then some (.str (found i) t1) else if y = nW then we else if y = nE then ee else m₀ y)) → News h₀ L h' news → Q' .next { s with heap := h', toks := tk' }) →
      wpAny (model prog w) A (isTrue test env (eval test env)) (fun b s₂ => if b = true then wpAny (model prog w) A (execs body env) Q' E s₂ else False) E { s with heap := h, toks := tk })
    (done : ∀ h tk t1 t2 we ee, Fr h₀ L h (fun y => if y = nP then some (.int (place n) t2) else if y = nF then some (.str (found n) t1) else if y = nW then we else if y = nE then ee else m₀ y) → News h₀ L h news →
      wpAny (model prog w) A (isTrue test env (eval test env)) (fun b s₂ => if b = true then False else Q .next s₂) E { s with heap := h, toks := tk })
    (hE : PassesOwn (model prog w) A env E) :
    wpAny (model prog w) A (exec (.While test body [] pos) env) Q E s := by
  subst hp0 hf0
  refine While_inv (TwoJ place found n nP nF nW nE m₀ news)
    (n₀ := n) F N ⟨rfl, 0, t1, t2, (if nW = nP then some (.int (place 0) t2) else if nW = nF then some (.str (found 0) t1) else m₀ nW), m₀ nE, Nat.zero_add _, ?_⟩ ?_ hE
  · funext y
    by_cases h1 : y = nP
    · simp [h1]
    · by_cases h2 : y = nF
      · simp [h1, h2]
      · by_cases h3 : y = nW
        · subst h3; simp [h1, h2]
        · by_cases h4 : y = nE
          · subst h4; simp [h1, h2, h3]
          · simp [h1, h2, h3, h4]
  · rintro r m₁ nw h₁ tk₁ F₁ N₁ ⟨rfl, i, t1', t2', we, ee, hi, rfl⟩
    by_cases hr : r = 0
    · have hin : i = n := by omega
      subst hin
      refine wpAny_mono (done h₁ tk₁ t1' t2' we ee F₁ N₁) (fun b s₂ hb => ?_) fun _ _ e => e
      cases b with
      | true => exact absurd hb (by simp)
      | false => simpa using hb
    · refine wpAny_mono (turn i (by omega) h₁ tk₁ t1' t2' we ee (WhileStep h₀ L s (TwoJ place found n nP nF nW nE m₀ nw) r) F₁ N₁ fun h' tk' t1'' t2'' we' ee' F' N' => ?_) (fun b s₂ hb => ?_) fun _ _ e => e
      · refine WhileStep.intro F' N' (n' := r - 1) (by omega) ⟨rfl, i + 1, t1'', t2'', we', ee', by omega, ?_⟩
        funext y
        by_cases h1 : y = nP
        · simp [h1]
        · by_cases h2 : y = nF
          · simp [h1, h2]
          · by_cases h3 : y = nW
            · simp [h1, h2, h3]
            · by_cases h4 : y = nE
              · simp [h1, h2, h3, h4]
              · simp [h1, h2, h3, h4]
      · cases b with
        | true => simpa using hb
        | false => exact absurd hb (by simp)
end
end
end Mine

namespace Mine
section
set_option maxRecDepth 100000
/-- a table of texts: key, name -/
def lookS (k : Str) : List (Str × Str) → Option Str
  | [] => none
  | (a, b) :: r => if a = k then some b else lookS k r
def fwd (tb : List (Str × Str)) : List (PyData × PyData) := tb.map fun p => (.str p.1, .str p.2)
def bwd (tb : List (Str × Str)) : List (Str × Str) := tb.map fun p => (p.2, p.1)
theorem lookup_fwd (k : Str) : ∀ tb : List (Str × Str), Spec.lookup (.str k) (fwd tb) = (lookS k tb).map PyData.str
  | [] => rfl
  | (a, b) :: r => by
    show (if Spec.same (.str a) (.str k) = true then some (PyData.str b) else Spec.lookup (.str k) (fwd r)) = _
    rw [PyProof.V.same_str, lookup_fwd k r, lookS]
    by_cases h : a = k
    · simp [h]
    · simp [h]
theorem lookup_getD (k : Str) (tb : List (Str × Str)) : (Spec.lookup (.str k) (fwd tb)).getD (.str k) = .str ((lookS k tb).getD k) := by
  rw [lookup_fwd]; cases lookS k tb <;> rfl

def KvOf : List (Str × Value) → List (Str × Str) → Prop
  | [], [] => True
  | (k, y) :: r, (a, b) :: q => k = a ∧ (∃ u, y = .str b u) ∧ KvOf r q
  | _, _ => False
theorem KvOf.flat : ∀ {kvs : List (Str × Value)} {tb : List (Str × Str)}, KvOf kvs tb → PyProof.V.FlatPairs PyData.str kvs (fwd tb)
  | [], [], _ => .nil
  | (_, _) :: _, (_, _) :: _, ⟨rfl, ⟨_, rfl⟩, h⟩ => .cons (PyProof.V.Flat.str _ _) (KvOf.flat h)
theorem KvOf.len : ∀ {kvs : List (Str × Value)} {tb : List (Str × Str)}, KvOf kvs tb → kvs.length = tb.length
  | [], [], _ => rfl
  | (_, _) :: _, (_, _) :: _, ⟨_, _, h⟩ => by rw [List.length_cons, List.length_cons, KvOf.len h]
theorem KvOf.at : ∀ {kvs : List (Str × Value)} {tb : List (Str × Str)}, KvOf kvs tb → ∀ (i : Nat) (k : Str) (y : Value), kvs[i]? = some (k, y) → ∃ nm u, y = .str nm u ∧ tb[i]? = some (k, nm)
  | [], [], _, i, k, y, e => by simp at e
  | (k', y') :: r, (a, b) :: q, ⟨h1, ⟨u, h2⟩, h⟩, i, k, y, e => by
    cases i with
    | zero =>
      simp only [List.getElem?_cons_zero, Option.some.injEq, Prod.mk.injEq] at e ⊢
      exact ⟨b, u, by rw [← e.2, h2], by rw [← e.1, h1], rfl⟩
    | succ i =>
      simp only [List.getElem?_cons_succ] at e ⊢
      exact KvOf.at h i k y e
theorem KvOf.texts {kvs : List (Str × Value)} {tb : List (Str × Str)} (h : KvOf kvs tb) (i : Nat) (k : Str) (y : Value) (e : kvs[i]? = some (k, y)) : ∃ nm u, y = .str nm u := by
  obtain ⟨nm, u, e1, _⟩ := h.at i k y e
  exact ⟨nm, u, e1⟩
theorem KvOf.look {kvs : List (Str × Value)} {tb : List (Str × Str)} (h : KvOf kvs tb) (hl : ∀ p ∈ tb, lookS p.1 tb = some p.2) (k nm : Str) (u : Tok) (hm : (k, Value.str nm u) ∈ kvs) : Spec.lookup (.str k) (fwd tb) = some (.str nm) := by
  obtain ⟨i, hi⟩ := List.mem_iff_getElem?.mp hm
  obtain ⟨nm', u', e, ht⟩ := h.at i _ _ hi
  cases e
  rw [lookup_fwd, hl _ (List.mem_of_getElem? ht)]
  rfl

theorem stored_new {kvs : List (Str × Value)} {k : Str} (v : Value) (h : k ∉ kvs.map (·.1)) : PySem.stored kvs k v = kvs ++ [(k, v)] := by
  unfold PySem.stored
  rw [if_neg]
  intro hc
  obtain ⟨p, hp, he⟩ := List.any_eq_true.mp hc
  exact h (List.mem_map.mpr ⟨p, hp, by simpa using he⟩)
theorem storedAll_map (ps : List (Str × Tok × Value)) (hn : (ps.map (·.1)).Nodup) : storedAll ps = ps.map fun p => (p.1, p.2.2) := by
  have key : ∀ (l : List (Str × Tok × Value)) (acc : List (Str × Value)), (l.map (·.1)).Nodup → (∀ p ∈ l, p.1 ∉ acc.map (·.1)) → l.foldl (fun kvs p => PySem.stored kvs p.1 p.2.2) acc = acc ++ l.map fun p => (p.1, p.2.2) := by
    intro l
    induction l with
    | nil => intro acc _ _; simp
    | cons a r ih =>
      intro acc hn ha
      rw [List.map_cons, List.nodup_cons] at hn
      rw [List.foldl_cons, stored_new _ (ha a (List.mem_cons_self ..)), ih _ hn.2, List.map_cons, List.append_assoc]
      · rfl
      · intro p hp hc
        rw [List.map_append, List.mem_append] at hc
        rcases hc with hc | hc
        · exact ha p (List.mem_cons_of_mem _ hp) hc
        · simp only [List.map_cons, List.map_nil, List.mem_singleton] at hc
          exact hn.1 (List.mem_map.mpr ⟨p, hp, hc⟩)
  simpa [storedAll] using key ps [] hn (by simp)
/-- the turned table, as the dict's pairs bear it -/
theorem Turned.back {kvs : List (Str × Value)} {tb : List (Str × Str)} {ps : List (Str × Tok × Value)} (h : Turned kvs ps) (hk : KvOf kvs tb) (hn : (tb.map (·.2)).Nodup) : PyProof.V.FlatPairs PyData.str (storedAll ps) (fwd (bwd tb)) := by
  have key : ∀ (ps : List (Str × Tok × Value)) (kvs : List (Str × Value)) (tb : List (Str × Str)), Turned kvs ps → KvOf kvs tb → ps.map (·.1) = tb.map (·.2) ∧ PyProof.V.FlatPairs PyData.str (ps.map fun p => (p.1, p.2.2)) (fwd (bwd tb)) := by
    intro ps
    induction ps with
    | nil =>
      intro kvs tb ht hk
      have hl := hk.len
      have h0 := ht.1
      have : tb = [] := List.eq_nil_of_length_eq_zero (by rw [← hl, ← h0]; rfl)
      subst this
      exact ⟨rfl, .nil⟩
    | cons a r ih =>
      intro kvs tb ht hk
      cases kvs with
      | nil => exact absurd ht.1 (by simp)
      | cons kv kr =>
        obtain ⟨k, y⟩ := kv
        cases tb with
        | nil => exact hk.elim
        | cons ab q =>
          obtain ⟨a1, b1⟩ := ab
          obtain ⟨hk1, ⟨u, hu⟩, hk2⟩ := hk
          obtain ⟨k', t, u', e1, e2⟩ := ht.2 0 a rfl
          simp only [List.getElem?_cons_zero, Option.some.injEq, Prod.mk.injEq] at e1
          obtain ⟨e3, e4⟩ := e1
          rw [hu] at e4
          injection e4 with e5 e6
          obtain ⟨r1, r2⟩ := ih kr q ⟨by have := ht.1; simpa using this, fun i p hp => by
            obtain ⟨k'', t'', u'', x1, x2⟩ := ht.2 (i + 1) p (by simpa using hp)
            exact ⟨k'', t'', u'', by simpa using x1, x2⟩⟩ hk2
          refine ⟨by rw [List.map_cons, List.map_cons, r1, ← e5], ?_⟩
          rw [List.map_cons, e2, ← e5, ← e3, hk1]
          exact .cons (PyProof.V.Flat.str _ _) r2
  obtain ⟨h1, h2⟩ := key ps kvs tb h hk
  rw [storedAll_map ps (by rw [h1]; exact hn)]
  exact h2

/-- the three tables -/
def tbP : List (Str × Str) := [(Str.ofString "&", Str.ofString "&amp;"), (Str.ofString "<", Str.ofString "&lt;"), (Str.ofString ">", Str.ofString "&gt;")]
def tbM : List (Str × Str) := [(Str.ofString "&", Str.ofString "&amp;"), (Str.ofString "<", Str.ofString "&lt;"), (Str.ofString ">", Str.ofString "&gt;"), (Str.ofString "\"", Str.ofString "&quot;"), (Str.ofString "\x0d", Str.ofString "&#13;"), (Str.ofString "\n", Str.ofString "&#10;"), (Str.ofString "\t", Str.ofString "&#09;")]
def tbH : List (Str × Str) := [(Str.ofString "&", Str.ofString "&amp;"), (Str.ofString ">", Str.ofString "&gt;"), (Str.ofString "\"", Str.ofString "&quot;")]
/-- all that is asked of a table -/
structure TableOk (tb : List (Str × Str)) (nm : Nat → Str) : Prop where
  few : tb.length ≤ 10
  look : ∀ p ∈ tb, lookS p.1 tb = some p.2
  apart : (tb.map (·.2)).Nodup
  tell : ∀ c, (lookS ⟨#[c]⟩ tb).getD ⟨#[c]⟩ = nm c
  back : ∀ c, (lookS (nm c) (bwd tb)).getD (nm c) = ⟨#[c]⟩
  names : NamesOk nm
  short : ∀ c, (nm c).length ≤ 6
theorem one_eq {a c : Nat} : ((⟨#[a]⟩ : Str) = ⟨#[c]⟩) ↔ a = c := by simp
theorem look_one {tb : List (Str × Str)} (h : ∀ p ∈ tb, p.1.length ≠ 1) (c : Nat) : lookS ⟨#[c]⟩ tb = none := by
  induction tb with
  | nil => rfl
  | cons a r ih =>
    obtain ⟨x, y⟩ := a
    have hx : ¬ x = ⟨#[c]⟩ := fun e => h (x, y) (List.mem_cons_self ..) (by show x.length = 1; rw [e]; rfl)
    rw [lookS, if_neg hx]
    exact ih fun p hp => h p (List.mem_cons_of_mem _ hp)
theorem named (z : Str) (mid : List Nat) (h : z.cps.toList = 38 :: mid ++ [59]) (hm : 59 ∉ mid) (c : Nat) : (c ≠ 38 ∧ z = ⟨#[c]⟩) ∨ ∃ mid, z.cps.toList = 38 :: mid ++ [59] ∧ 59 ∉ mid := .inr ⟨mid, h, hm⟩
theorem okP : TableOk tbP nmP where
  few := by decide
  look := by decide +kernel
  apart := by decide +kernel
  tell := fun c => by
    simp only [tbP, lookS, lit38, lit60, lit62, one_eq, nmP, eq_comm (b := c)]
    (repeat' split) <;> rfl
  back := fun c => by
    simp only [nmP]
    (repeat' split) <;> first | (subst_vars; decide +kernel) | (rw [look_one (by decide +kernel)]; rfl)
  names := fun c => by
    simp only [nmP]
    (repeat' split) <;> first
      | exact named _ [97, 109, 112] amp_l (by decide) c
      | exact named _ [108, 116] lt_l (by decide) c
      | exact named _ [103, 116] gt_l (by decide) c
      | exact .inl ⟨by assumption, rfl⟩
  short := nmP_len
theorem okM : TableOk tbM nmM where
  few := by decide
  look := by decide +kernel
  apart := by decide +kernel
  tell := fun c => by
    simp only [tbM, lookS, lit38, lit60, lit62, lit34, lit13, lit10, lit9, one_eq, nmM, eq_comm (b := c)]
    (repeat' split) <;> rfl
  back := fun c => by
    simp only [nmM]
    (repeat' split) <;> first | (subst_vars; decide +kernel) | (rw [look_one (by decide +kernel)]; rfl)
  names := fun c => by
    simp only [nmM]
    (repeat' split) <;> first
      | exact named _ [97, 109, 112] amp_l (by decide) c
      | exact named _ [108, 116] lt_l (by decide) c
      | exact named _ [103, 116] gt_l (by decide) c
      | exact named _ [113, 117, 111, 116] quot_l (by decide) c
      | exact named _ [35, 49, 51] r13_l (by decide) c
      | exact named _ [35, 49, 48] r10_l (by decide) c
      | exact named _ [35, 48, 57] r9_l (by decide) c
      | exact .inl ⟨by assumption, rfl⟩
  short := nmM_len
theorem okH : TableOk tbH nmH where
  few := by decide
  look := by decide +kernel
  apart := by decide +kernel
  tell := fun c => by
    simp only [tbH, lookS, lit38, lit62, lit34, one_eq, nmH, eq_comm (b := c)]
    (repeat' split) <;> rfl
  back := fun c => by
    simp only [nmH]
    (repeat' split) <;> first | (subst_vars; decide +kernel) | (rw [look_one (by decide +kernel)]; rfl)
  names := fun c => by
    simp only [nmH]
    (repeat' split) <;> first
      | exact named _ [97, 109, 112] amp_l (by decide) c
      | exact named _ [103, 116] gt_l (by decide) c
      | exact named _ [113, 117, 111, 116] quot_l (by decide) c
      | exact .inl ⟨by assumption, rfl⟩
  short := nmH_len
theorem ndP : ([Str.ofString "&", Str.ofString "<", Str.ofString ">"] : List Str).Nodup := by decide +kernel
theorem ndM : ([Str.ofString "&", Str.ofString "<", Str.ofString ">", Str.ofString "\"", Str.ofString "\x0d", Str.ofString "\n", Str.ofString "\t"] : List Str).Nodup := by decide +kernel
theorem ndH : ([Str.ofString "&", Str.ofString ">", Str.ofString "\""] : List Str).Nodup := by decide +kernel
end
end Mine

namespace Mine
section
set_option maxRecDepth 100000
theorem told_split (nm : Nat → Str) (x : Str) {i : Nat} (hi : i < x.cps.toList.length) :
    (toldS nm x).cps.toList = ((x.cps.toList.take i).flatMap fun c => (nm c).cps.toList) ++ ((nm x.cps.toList[i]).cps.toList ++ ((x.cps.toList.drop (i + 1)).flatMap fun c => (nm c).cps.toList)) := by
  rw [told_list]
  conv => lhs; rw [← List.take_append_drop i x.cps.toList, List.drop_eq_getElem_cons hi]
  rw [List.flatMap_append, List.flatMap_cons]
theorem place_succ (nm : Nat → Str) (x : Str) {i : Nat} (hi : i < x.cps.toList.length) : placeAt nm x i + ((nm x.cps.toList[i]).length : Int) = placeAt nm x (i + 1) := by
  unfold placeAt
  rw [List.take_add_one, List.getElem?_eq_getElem hi]
  simp only [Option.toList, List.flatMap_append, List.length_append, List.flatMap_cons, List.flatMap_nil, List.append_nil]
  have e : (nm x.cps.toList[i]).length = (nm x.cps.toList[i]).cps.toList.length := by rw [Array.length_toList]; rfl
  rw [e]
  omega
theorem place_last (nm : Nat → Str) (x : Str) : placeAt nm x x.cps.toList.length = ((toldS nm x).length : Int) := by
  unfold placeAt
  rw [List.take_length, ← told_list, Array.length_toList]
  rfl
theorem nm_pos {nm : Nat → Str} (hN : NamesOk nm) (c : Nat) : 0 < (nm c).cps.toList.length := by
  rcases hN c with ⟨_, h⟩ | ⟨mid, h, _⟩
  · rw [h]; simp
  · rw [h]; simp
theorem told_len (nm : Nat → Str) (x : Str) : (toldS nm x).length = (toldS nm x).cps.toList.length := by rw [Array.length_toList]; rfl
theorem place_lt {nm : Nat → Str} (hN : NamesOk nm) (x : Str) {i : Nat} (hi : i < x.cps.toList.length) : placeAt nm x i < ((toldS nm x).length : Int) := by
  rw [told_len, told_split nm x hi]
  unfold placeAt
  have := nm_pos hN x.cps.toList[i]
  simp only [List.length_append]
  omega
theorem read_succ (x : Str) {i : Nat} (hi : i < x.cps.toList.length) : readAt x i ++ ⟨#[x.cps.toList[i]]⟩ = readAt x (i + 1) := by
  refine str_of_list ?_
  rw [Str.cps_append, Array.toList_append]
  unfold readAt
  rw [List.take_add_one, List.getElem?_eq_getElem hi]
  rfl
theorem read_last (x : Str) : readAt x x.cps.toList.length = x := by
  refine str_of_list ?_
  unfold readAt
  rw [List.take_length]
theorem read_len (x : Str) (i : Nat) : (readAt x i).length ≤ x.length := by
  show (readAt x i).cps.size ≤ x.cps.size
  unfold readAt
  rw [List.size_toArray, List.length_take, Array.length_toList]
  omega

/-- the sign that stands at the place -/
theorem at_place (nm : Nat → Str) (x : Str) {i : Nat} (hi : i < x.cps.toList.length) (j : Nat) (hj : j < (nm x.cps.toList[i]).cps.toList.length) :
    (toldS nm x).cps.toList[((x.cps.toList.take i).flatMap fun c => (nm c).cps.toList).length + j]? = some ((nm x.cps.toList[i]).cps.toList[j]) := by
  rw [told_split nm x hi, List.getElem?_append_right (Nat.le_add_right _ _), Nat.add_sub_cancel_left, List.getElem?_append_left hj, List.getElem?_eq_getElem hj]
theorem item_place {nm : Nat → Str} (hN : NamesOk nm) (x : Str) {i : Nat} (hi : i < x.cps.toList.length) :
    Txt.item (toldS nm x) (placeAt nm x i) = ⟨#[(nm x.cps.toList[i]).cps.toList[0]'(nm_pos hN _)]⟩ := by
  have h0 : 0 ≤ placeAt nm x i := Int.natCast_nonneg _
  have ht : (placeAt nm x i).toNat = ((x.cps.toList.take i).flatMap fun c => (nm c).cps.toList).length := Int.toNat_natCast _
  have h := at_place nm x hi 0 (nm_pos hN _)
  rw [Nat.add_zero, ← ht, Array.getElem?_toList] at h
  unfold Txt.item Txt.charAt
  rw [StrLaws.at_nonneg h0 h]
  rfl

theorem word_single {nm : Nat → Str} (hN : NamesOk nm) (x : Str) {i : Nat} (hi : i < x.cps.toList.length) (h : (Txt.item (toldS nm x) (placeAt nm x i) == Str.ofString "&") = false) :
    Txt.item (toldS nm x) (placeAt nm x i) = nm x.cps.toList[i] := by
  rw [item_place hN x hi] at h ⊢
  rcases hN x.cps.toList[i] with ⟨_, e⟩ | ⟨mid, e, _⟩
  · refine str_of_list ?_
    simp only [e]
    rfl
  · exfalso
    rw [lit38] at h
    have e0 : (nm x.cps.toList[i]).cps.toList[0]'(nm_pos hN _) = 38 := by simp only [e]; rfl
    rw [e0] at h
    exact absurd h (by decide)
theorem lit59 : Str.ofString ";" = ⟨#[59]⟩ := by decide +kernel
/-- where a name stands, its end is found -/
theorem find_named {nm : Nat → Str} (hN : NamesOk nm) (x : Str) {i : Nat} (hi : i < x.cps.toList.length) (h : (Txt.item (toldS nm x) (placeAt nm x i) == Str.ofString "&") = true) :
    Txt.find3 (toldS nm x) (Str.ofString ";") (placeAt nm x i) + 1 = placeAt nm x i + ((nm x.cps.toList[i]).cps.toList.length : Nat) := by
  rw [item_place hN x hi] at h
  rcases hN x.cps.toList[i] with ⟨e1, e⟩ | ⟨mid, e, e2⟩
  · exfalso
    have e0 : (nm x.cps.toList[i]).cps.toList[0]'(nm_pos hN _) = x.cps.toList[i] := by simp only [e]; rfl
    rw [e0, lit38] at h
    have := eq_of_beq h
    exact e1 (by simpa using this)
  · have hp : fromIndex (toldS nm x).length (placeAt nm x i) = ((x.cps.toList.take i).flatMap fun c => (nm c).cps.toList).length := by
      unfold fromIndex placeAt
      rw [if_neg (by omega)]
      omega
    have hlt := place_lt hN x hi
    have hlen : (nm x.cps.toList[i]).cps.toList.length = mid.length + 2 := by rw [e]; simp
    have hwhole : ((x.cps.toList.take i).flatMap fun c => (nm c).cps.toList).length + (nm x.cps.toList[i]).cps.toList.length ≤ (toldS nm x).length := by
      rw [told_len, told_split nm x hi]; simp only [List.length_append]; omega
    have hlast := at_place nm x hi (mid.length + 1) (by omega)
    have hl59 : (nm x.cps.toList[i]).cps.toList[mid.length + 1]'(by omega) = 59 := by
      simp only [e]
      rw [List.getElem_append_right (by simp)]
      simp
    rw [hl59] at hlast
    have hg := StrLaws.getD_of_getElem? hlast
    have hmid : ∀ v, ((x.cps.toList.take i).flatMap fun c => (nm c).cps.toList).length ≤ v → v < ((x.cps.toList.take i).flatMap fun c => (nm c).cps.toList).length + (mid.length + 1) → (toldS nm x).cps.getD v 0 ≠ 59 := by
      intro v h1 h2
      obtain ⟨j, rfl⟩ : ∃ j, v = ((x.cps.toList.take i).flatMap fun c => (nm c).cps.toList).length + j := ⟨v - ((x.cps.toList.take i).flatMap fun c => (nm c).cps.toList).length, by omega⟩
      have hj : j < mid.length + 1 := by omega
      rw [StrLaws.getD_of_getElem? (at_place nm x hi j (by omega))]
      intro he
      have hcons : (nm x.cps.toList[i]).cps.toList[j]'(by omega) = (38 :: mid)[j]'(by simpa using hj) := by
        simp only [e]
        rw [List.getElem_append_left]
      rw [hcons] at he
      have hmem : (38 :: mid)[j]'(by simpa using hj) ∈ 38 :: mid := List.getElem_mem _
      rw [he] at hmem
      rcases List.mem_cons.mp hmem with h | h
      · exact absurd h (by decide)
      · exact e2 h
    rw [lit59]
    rcases StrLaws.find3_spec (toldS nm x) 59 (placeAt nm x i) with ⟨_, hno⟩ | ⟨k, hk, h1, h2, h3, h4⟩
    · exact absurd hg (hno _ (by rw [hp]; omega) (by omega))
    · rw [hp] at h1 h4
      have hk' : k = ((x.cps.toList.take i).flatMap fun c => (nm c).cps.toList).length + (mid.length + 1) := by
        rcases Nat.lt_trichotomy k (((x.cps.toList.take i).flatMap fun c => (nm c).cps.toList).length + (mid.length + 1)) with hlt | heq | hgt
        · exact absurd h3 (hmid k h1 hlt)
        · exact heq
        · exact absurd hg (h4 _ (by omega) hgt)
      rw [hk, hk', hlen]
      unfold placeAt
      omega
theorem word_named {nm : Nat → Str} (hN : NamesOk nm) (x : Str) {i : Nat} (hi : i < x.cps.toList.length) (h : (Txt.item (toldS nm x) (placeAt nm x i) == Str.ofString "&") = true) :
    Txt.slice (toldS nm x) (some (placeAt nm x i)) (some (Txt.find3 (toldS nm x) (Str.ofString ";") (placeAt nm x i) + 1)) = nm x.cps.toList[i] := by
  have hwhole : ((x.cps.toList.take i).flatMap fun c => (nm c).cps.toList).length + (nm x.cps.toList[i]).cps.toList.length ≤ (toldS nm x).cps.toList.length := by
    rw [told_split nm x hi]; simp only [List.length_append]; omega
  rw [find_named hN x hi h]
  have h0 : 0 ≤ placeAt nm x i := Int.natCast_nonneg _
  have hpd : placeAt nm x i = ((((x.cps.toList.take i).flatMap fun c => (nm c).cps.toList).length : Nat) : Int) := rfl
  have e1 : (placeAt nm x i).toNat = ((x.cps.toList.take i).flatMap fun c => (nm c).cps.toList).length := Int.toNat_natCast _
  have e2 : (placeAt nm x i + ((nm x.cps.toList[i]).cps.toList.length : Nat) - placeAt nm x i).toNat = (nm x.cps.toList[i]).cps.toList.length := by omega
  have hs := StrLaws.sliceText_plain (x := toldS nm x) (i := placeAt nm x i) (j := placeAt nm x i + ((nm x.cps.toList[i]).cps.toList.length : Nat)) ⟨h0, by omega, by omega⟩
  rw [e1, e2] at hs
  refine Eq.trans hs (str_of_list ?_)
  show ((toldS nm x).cps.toList.drop _).take _ = _
  rw [told_split nm x hi, List.drop_left, List.take_left]
theorem find_pos {nm : Nat → Str} (hN : NamesOk nm) (x : Str) {i : Nat} (hi : i < x.cps.toList.length) (h : (Txt.item (toldS nm x) (placeAt nm x i) == Str.ofString "&") = true) : 0 < Txt.find3 (toldS nm x) (Str.ofString ";") (placeAt nm x i) + 1 := by
  rw [find_named hN x hi h]
  have := nm_pos hN x.cps.toList[i]
  unfold placeAt
  omega
end
end Mine

namespace Mine
section
set_option maxRecDepth 100000
theorem join_flat : ∀ ys : List Str, (Txt.join (Str.ofString "") ys).cps.toList = ys.flatMap fun y => y.cps.toList := by
  have e : Str.ofString "" = ⟨#[]⟩ := by decide +kernel
  intro ys
  show (Builtin.Str.glued _ _).cps.toList = _
  rw [StrLaws.glued_eq_join, e]
  induction ys with
  | nil => rfl
  | cons a r ih => rw [join_nil_cons, Str.cps_append, Array.toList_append, ih, List.flatMap_cons]
theorem sign_ok (a : Int) : (Txt.item (Str.ofString "ab&<>\"'\x0d\t\n") (a.fmod 10)).cps.toList.length = 1 ∧ ∀ c ∈ (Txt.item (Str.ofString "ab&<>\"'\x0d\t\n") (a.fmod 10)).cps.toList, c = 9 ∨ c = 10 ∨ c = 13 ∨ 32 ≤ c := by
  have key : ∀ j : Fin 10, (Txt.item (Str.ofString "ab&<>\"'\x0d\t\n") ((j.val : Nat) : Int)).cps.toList.length = 1 ∧ ∀ c ∈ (Txt.item (Str.ofString "ab&<>\"'\x0d\t\n") ((j.val : Nat) : Int)).cps.toList, c = 9 ∨ c = 10 ∨ c = 13 ∨ 32 ≤ c := by decide +kernel
  have h0 : 0 ≤ a.fmod 10 := by rw [Int.fmod_eq_emod_of_nonneg _ (by decide)]; exact Int.emod_nonneg _ (by decide)
  have h1 : a.fmod 10 < 10 := by rw [Int.fmod_eq_emod_of_nonneg _ (by decide)]; exact Int.emod_lt_of_pos _ (by decide)
  obtain ⟨n, hn⟩ := Int.eq_ofNat_of_zero_le h0
  rw [hn] at h1 ⊢
  exact key ⟨n, by omega⟩
theorem text_facts {vs : List Value} {ns : List Int} (_hI : IntsAre vs ns) (h : ns.length ≤ 63) :
    (Txt.join (Str.ofString "") (List.map (fun a => Txt.item (Str.ofString "ab&<>\"'\x0d\t\n") (a.fmod 10)) (List.filter (fun _ => true) ns))).length ≤ 63 ∧
    ∀ c ∈ (Txt.join (Str.ofString "") (List.map (fun a => Txt.item (Str.ofString "ab&<>\"'\x0d\t\n") (a.fmod 10)) (List.filter (fun _ => true) ns))).cps.toList, c = 9 ∨ c = 10 ∨ c = 13 ∨ 32 ≤ c := by
  have hf : ns.filter (fun _ => true) = ns := by simp
  rw [hf]
  refine ⟨?_, ?_⟩
  · have e : (Txt.join (Str.ofString "") (List.map (fun a => Txt.item (Str.ofString "ab&<>\"'\x0d\t\n") (a.fmod 10)) ns)).length = (Txt.join (Str.ofString "") (List.map (fun a => Txt.item (Str.ofString "ab&<>\"'\x0d\t\n") (a.fmod 10)) ns)).cps.toList.length := by rw [Array.length_toList]; rfl
    rw [e, join_flat]
    have key : ∀ l : List Int, ((List.map (fun a => Txt.item (Str.ofString "ab&<>\"'\x0d\t\n") (a.fmod 10)) l).flatMap fun y => y.cps.toList).length = l.length := by
      intro l
      induction l with
      | nil => rfl
      | cons a r ih => rw [List.map_cons, List.flatMap_cons, List.length_append, ih, (sign_ok a).1, List.length_cons]; omega
    rw [key]; exact h
  · intro c hc
    rw [join_flat, List.mem_flatMap] at hc
    obtain ⟨y, hy, hc⟩ := hc
    obtain ⟨a, _, rfl⟩ := List.mem_map.mp hy
    exact (sign_ok a).2 c hc
section
variable {prog : Program} {w : World} {o : Obj}
theorem packP {a1 a2 a3 a4 a5 a6 : Tok} (h : Obj.IsDictOf (PySem.strKind prog w) o (strPairs [(.str (Str.ofString "&") a1, .str (Str.ofString "&amp;") a2), (.str (Str.ofString "<") a3, .str (Str.ofString "&lt;") a4), (.str (Str.ofString ">") a5, .str (Str.ofString "&gt;") a6)])) :
    ∃ kvs, Obj.IsDictOf (PySem.strKind prog w) o kvs ∧ KvOf kvs tbP := ⟨_, h, rfl, ⟨_, rfl⟩, rfl, ⟨_, rfl⟩, rfl, ⟨_, rfl⟩, trivial⟩
theorem packH {a1 a2 a3 a4 a5 a6 : Tok} (h : Obj.IsDictOf (PySem.strKind prog w) o (strPairs [(.str (Str.ofString "&") a1, .str (Str.ofString "&amp;") a2), (.str (Str.ofString ">") a3, .str (Str.ofString "&gt;") a4), (.str (Str.ofString "\"") a5, .str (Str.ofString "&quot;") a6)])) :
    ∃ kvs, Obj.IsDictOf (PySem.strKind prog w) o kvs ∧ KvOf kvs tbH := ⟨_, h, rfl, ⟨_, rfl⟩, rfl, ⟨_, rfl⟩, rfl, ⟨_, rfl⟩, trivial⟩
theorem packM {a1 a2 a3 a4 a5 a6 a7 a8 a9 b1 b2 b3 b4 b5 : Tok} (h : Obj.IsDictOf (PySem.strKind prog w) o (strPairs [(.str (Str.ofString "&") a1, .str (Str.ofString "&amp;") a2), (.str (Str.ofString "<") a3, .str (Str.ofString "&lt;") a4), (.str (Str.ofString ">") a5, .str (Str.ofString "&gt;") a6),
      (.str (Str.ofString "\"") a7, .str (Str.ofString "&quot;") a8), (.str (Str.ofString "\x0d") a9, .str (Str.ofString "&#13;") b1), (.str (Str.ofString "\n") b2, .str (Str.ofString "&#10;") b3), (.str (Str.ofString "\t") b4, .str (Str.ofString "&#09;") b5)])) :
    ∃ kvs, Obj.IsDictOf (PySem.strKind prog w) o kvs ∧ KvOf kvs tbM := ⟨_, h, rfl, ⟨_, rfl⟩, rfl, ⟨_, rfl⟩, rfl, ⟨_, rfl⟩, rfl, ⟨_, rfl⟩, rfl, ⟨_, rfl⟩, rfl, ⟨_, rfl⟩, rfl, ⟨_, rfl⟩, trivial⟩
end
end
end Mine

namespace Mine
section
set_option maxRecDepth 100000
local macro_rules | `(tactic| walk_at "execs cons") => `(tactic| (k_here; (with_reducible refine gen_toks ?_); intro tk htk))
local macro_rules | `(tactic| walk_at "execs nil") => `(tactic| (k_here; (with_reducible refine gen_toks ?_); intro tk htk))
local macro_rules | `(tactic| walk_at "call builtin:str.replace") => `(tactic| (k_here; k_dflt (refine repl_mono (by first | (exact Nat.succ_ne_zero _) | (refine Nat.ne_of_gt ?_; assumption)) (Nat.succ_ne_zero _) (Nat.ne_of_lt (Nat.lt_succ_self _)) (by decide +kernel) (by first | omega | assumption) (by decide +kernel) ?_); intro t5 k5 hk5))
local macro_rules | `(tactic| walk_at "exec If") => `(tactic| (k_here; k_dflt (refine' esc_step ?k1 ?k2 ?k3 ?k4 ?k5 ?k6 ?_; (case k1 => k_asm); (case k2 => k_asm); (case k3 => rfl); (case k4 => first | exact lit38 | exact lit60 | exact lit62 | exact lit34 | exact lit13 | exact lit10 | exact lit9); (case k5 => (intro Q' hq; k_steps; exact hq _ _ (by first | assumption | omega | exact Nat.succ_pos _) (by k_asm) (by k_asm))); (case k6 => (intro h' tk' htk' F' N' Q' hq; k_steps; exact hq _ _ _ (by first | assumption | omega | exact Nat.succ_pos _) (by k_asm) (by k_asm))); k_whole; intro t' h' tk' htk' F' N'; (try k_sweep))))
set_option maxRecDepth 100000 in
set_option maxHeartbeats 8000000 in
theorem cdata_c (w : World) (mean : ExcName → Option Value) (mg mb : Str → Option Value) (news : List (Addr × Obj)) (x : Str) (t : Tok) (hx : x.length ≤ 4000) :
    EscClaim PySem.Challenge.rw_xh0005_01.row.prog w (hd.heap_39 w.params) hd.view_39 (looseW hd.view_39 [Str.ofString "_controlCharPat"]) mean mg mb 45 news 1 [.str x t] (fun t => .str (toldS nmP x) t) := by
  k_fill
  dsimp only [EscClaim]
  intros; rename_i hret
  have b1 : (cd1 x).length ≤ 24000 := by rw [cd1_is]; have := told_length n1 6 n1_len x; omega
  have b2 : (cd2 x).length ≤ 24000 := by rw [cd2_is]; have := told_length n2 6 n2_len x; omega
  rw [← cd3_is] at hret
  unfold cd2 at b2
  unfold cd1 at b1 b2
  w_strict
    (refine wpAny_call ?_
     k_dflt cell_enter
     k_steps
     exact hret _ _ _ (by first | assumption | omega | exact Nat.succ_pos _) (by k_asm) (by k_asm))
set_option maxRecDepth 100000 in
set_option maxHeartbeats 8000000 in
theorem html_c (w : World) (mean : ExcName → Option Value) (mg mb : Str → Option Value) (news : List (Addr × Obj)) (x : Str) (t : Tok) (hx : x.length ≤ 4000) :
    EscClaim PySem.Challenge.rw_xh0005_01.row.prog w (hd.heap_39 w.params) hd.view_39 (looseW hd.view_39 [Str.ofString "_controlCharPat"]) mean mg mb 59 news 1 [.str x t] (fun t => .str (toldS nmH x) t) := by
  k_fill
  dsimp only [EscClaim]
  intros; rename_i hret
  have b1 : (cd1 x).length ≤ 24000 := by rw [cd1_is]; have := told_length n1 6 n1_len x; omega
  have b2 : (ht2 x).length ≤ 24000 := by rw [ht2_is]; have := told_length h2 6 h2_len x; omega
  rw [← ht3_is] at hret
  unfold ht2 at b2
  unfold cd1 at b1 b2
  w_strict
    (refine wpAny_call ?_
     k_dflt cell_enter
     k_steps
     exact hret _ _ _ (by first | assumption | omega | exact Nat.succ_pos _) (by k_asm) (by k_asm))
set_option maxRecDepth 100000 in
set_option maxHeartbeats 8000000 in
theorem attrib_c (w : World) (mean : ExcName → Option Value) (mg mb : Str → Option Value) (news : List (Addr × Obj)) (x : Str) (t : Tok) (hx : x.length ≤ 4000) :
    EscClaim PySem.Challenge.rw_xh0005_01.row.prog w (hd.heap_39 w.params) hd.view_39 (looseW hd.view_39 [Str.ofString "_controlCharPat"]) mean mg mb 52 news 1 [.str x t] (fun t => .str (toldS nmM x) t) := by
  k_fill
  dsimp only [EscClaim]
  intros; rename_i hret
  have b1 : (cd1 x).length ≤ 24000 := by rw [cd1_is]; have := told_length n1 6 n1_len x; omega
  have b2 : (cd2 x).length ≤ 24000 := by rw [cd2_is]; have := told_length n2 6 n2_len x; omega
  have b3 : (cd3 x).length ≤ 24000 := by rw [cd3_is]; have := told_length nmP 6 nmP_len x; omega
  have b4 : (at4 x).length ≤ 24000 := by rw [at4_is]; have := told_length n4 6 n4_len x; omega
  have b5 : (at5 x).length ≤ 24000 := by rw [at5_is]; have := told_length n5 6 n5_len x; omega
  have b6 : (at6 x).length ≤ 24000 := by rw [at6_is]; have := told_length n6 6 n6_len x; omega
  rw [← at7_is] at hret
  unfold at6 at b6
  unfold at5 at b5 b6
  unfold at4 at b4 b5 b6
  unfold cd3 at b3 b4 b5 b6
  unfold cd2 at b2 b3 b4 b5 b6
  unfold cd1 at b1 b2 b3 b4 b5 b6
  w_strict
    (refine wpAny_call ?_
     k_dflt cell_enter
     k_steps
     exact hret _ _ _ (by first | assumption | omega | exact Nat.succ_pos _) (by k_asm) (by k_asm))
end
end Mine

namespace Mine
section
set_option maxRecDepth 100000
local macro_rules | `(tactic| k_mem) => `(tactic| assumption)
local macro_rules | `(tactic| walk_at "eval ListComp") => `(tactic| (k_here; (with_reducible show wpAny _ _ (eval (Expr.ListComp (Expr.Call _ _ _ _) _ _ _) _) _ _ _); k_dflt (refine comp_str (F₀ := by k_asm) (by with_unfolding_all rfl) (by decide) (by rfl) (by decide) (by rfl) ?_)))
set_option maxRecDepth 100000 in
set_option maxHeartbeats 8000000 in
theorem told_c (w : World) (mean : ExcName → Option Value) (mg mb : Str → Option Value) (news : List (Addr × Obj)) (x : Str) (t : Tok) (nm : Nat → Str) (tb : List (Str × Str)) (hT : TableOk tb nm) (hx : x.length ≤ 4000)
   (d : Addr) (o : Obj) (kvs : List (Str × Value)) (hm : (d, o) ∈ news) (hdict : Obj.IsDictOf (PySem.strKind PySem.Challenge.rw_xh0005_01.row.prog w) o kvs) (hkv : KvOf kvs tb) (hs : (d == sysModules) = false) :
    EscClaim PySem.Challenge.rw_xh0005_01.row.prog w (hd.heap_39 w.params) hd.view_39 (looseW hd.view_39 [Str.ofString "_controlCharPat"]) mean mg mb 76 news 0 [.str x t, .ref d] (fun t => .str (toldS nm x) t) := by
  have hf := hkv.flat
  have hB := hT.short
  k_fill
  dsimp only [EscClaim]
  intros; rename_i hret
  w_strict
    (refine wpAny_call ?_
     (refine' code_defC ?k1 ?k2 ?k3 ?k4 ?k5 ?kA ?kF ?kK ?k6 ?k7 ?k8 ?k9 ?kB ?kD ?_ ?c2 ?c3 ?c4; (case kA => exact rfl); (case kF => exact rfl); (case kK => assumption); (case k1 => k_asm); (case k2 => k_asm); (case k3 => k_asm); (case k4 => k_asm); (case k5 => k_asm); (case k6 => k_is); (case k7 => k_is); (case k8 => ktr_room); (case k9 => exact BindsTo.of_eq rfl); (case kB => exact rfl); (case kD => decide +kernel); (case c2 => exact rfl); (case c3 => exact rfl); (case c4 => exact rfl); k_whole; intro g' L' h' tk' cells' FG' F' N' Y' B' X' T' l1; (try k_lt l1); k_cells Y'; (try simp only [List.cons_append, List.nil_append] at N'); (try dsimp only); (try k_lift B'); (try k_fold))
     k_steps
     refine ⟨_, _, _, rfl, rfl, by k_asm, by k_asm, by rw [PySem.sizeLine_eq]; omega, ?_⟩
     intro s₂ hs₂
     obtain ⟨g₂, rfl⟩ := hs₂
     refine rest_str nm ?_ ?_
     · intro c t₂ I oI C oC D₂ m₂ ys h tk E' Q' hc hC hx₂ F₂ N₂ hret₂
       k_steps
       rename_i hv
       rw [lookup_getD, hT.tell c] at hv
       obtain ⟨t₃, rfl⟩ := hv.str_inv
       exact hret₂ _ _ _ (by k_asm) (by k_asm)
     · intro ys hys D₂ h tk F₂ N₂ off₂
       have hsum := sum_length nm 6 hB x.cps.toList
       have hlen : (x.cps.toList.map nm).length = x.length := by rw [List.length_map, Array.length_toList]; rfl
       have hxl : x.cps.toList.length = x.length := Array.length_toList
       have hj := join_toldS nm x
       have h00 : (Str.ofString "").length = 0 := by decide +kernel
       have hl : h.IsList D₂ ys.toArray := News.isList N₂ (List.mem_cons_self ..)
       k_steps
       refine' join_list (D := D₂) (items := ys.toArray) (ys := x.cps.toList.map nm) ?h1 ?h2 ?h3 ?_
       case h1 => exact hl
       case h2 => exact hys
       case h3 => rw [hlen, h00]; omega
       intro t₄ k₄
       rw [hj]
       k_steps
       exact hret _ _ _ (Nat.zero_le _) (by k_asm) (cb_drop (by k_asm) fun p hp => List.mem_cons_of_mem _ (List.mem_cons_of_mem _ hp)))
end
end Mine

namespace Mine
section
set_option maxRecDepth 100000
local macro_rules | `(tactic| walk_at "execs cons") => `(tactic| (k_here; (with_reducible refine gen_toks ?_); intro tk htk))
local macro_rules | `(tactic| walk_at "execs nil") => `(tactic| (k_here; (with_reducible refine gen_toks ?_); intro tk htk))
local macro_rules | `(tactic| walk_at "call builtin:str.replace") => `(tactic| (k_here; k_dflt (refine repl_mono (by first | (exact Nat.succ_ne_zero _) | (refine Nat.ne_of_gt ?_; assumption)) (Nat.succ_ne_zero _) (Nat.ne_of_lt (Nat.lt_succ_self _)) (by decide +kernel) (by first | omega | assumption) (by decide +kernel) ?_); intro t5 k5 hk5))
local macro_rules | `(tactic| walk_at "getMethod ref") => `(tactic| (k_here; (with_reducible show wpAny _ _ (getMethod (Value.ref _) (Str.ofString "search") _) _ _ _); k_dflt (refine' getMethod_search (p := 64) ?hp ?_; (case hp => exact (Frag.In.keeps (by k_asm) (Fr.keep (by k_asm))) _ _ (by k_is)); k_whole)))
local macro_rules | `(tactic| walk_at "call builtin:re.Pattern.search") => `(tactic| (k_here; k_dflt (refine' search_none (p := 64) (c := 63) (n := 0) ?hp ?h5 ?h6 ?hc ?hx ?hl ?_; (case hp => exact (Frag.In.keeps (by k_asm) (Fr.keep (by k_asm))) _ _ (by k_is)); (case h5 => rfl); (case h6 => rfl); (case hc => exact (Frag.In.keeps (by k_asm) (Fr.keep (by k_asm))) _ _ (by k_is)); (case hx => assumption); (case hl => omega); k_whole)))
set_option maxRecDepth 100000 in
set_option maxHeartbeats 8000000 in
theorem escape_c (w : World) (mean : ExcName → Option Value) (mg mb : Str → Option Value) (news : List (Addr × Obj)) (x : Str) (t : Tok) (hx : x.length ≤ 400) (hs : ∀ c ∈ x.cps.toList, c = 9 ∨ c = 10 ∨ c = 13 ∨ 32 ≤ c) :
    EscClaim PySem.Challenge.rw_xh0005_01.row.prog w (hd.heap_39 w.params) hd.view_39 (looseW hd.view_39 [Str.ofString "_controlCharPat"]) mean mg mb 71 news 1 [.str x t] (fun t => .str (toldS nmP (rowsOf x)) t) := by
  k_fill
  dsimp only [EscClaim]
  intros; rename_i hret
  have r1 := row1_len hx
  have r2 := rows_len hx
  have b1 : (cd1 (rowsOf x)).length ≤ 24000 := by rw [cd1_is]; have := told_length n1 6 n1_len (rowsOf x); omega
  have b2 : (cd2 (rowsOf x)).length ≤ 24000 := by rw [cd2_is]; have := told_length n2 6 n2_len (rowsOf x); omega
  rw [← cd3_is] at hret
  unfold cd2 at b2
  unfold cd1 at b1 b2
  unfold rowsOf at r2 b1 b2
  unfold row1 at r1 r2 b1 b2
  w_strict
    (refine wpAny_call ?_
     k_dflt cell_enter
     k_steps
     exact hret _ _ _ (by first | assumption | omega | exact Nat.succ_pos _) (by k_asm) (by k_asm))
end
end Mine

namespace Mine
section
set_option maxRecDepth 100000
local macro_rules | `(tactic| walk_at "execs cons") => `(tactic| (k_here; (with_reducible refine gen_toks ?_); intro tk htk))
local macro_rules | `(tactic| walk_at "execs nil") => `(tactic| (k_here; (with_reducible refine gen_toks ?_); intro tk htk))
local macro_rules | `(tactic| k_mem) => `(tactic| assumption)
local macro_rules | `(tactic| walk_at "eval ListComp") => `(tactic| (k_here; (with_reducible show wpAny _ _ (eval (Expr.ListComp (Expr.Tuple _ _ _) _ _ _) _) _ _ _); k_dflt (refine comp_dict (by k_asm) (by with_unfolding_all rfl) (by decide) (by rfl) (by decide) (by rfl) ?_)))
local macro_rules | `(tactic| walk_at "call builtin:dict.get") => `(tactic| (k_here; refine Here.out ?_))
local macro_rules | `(tactic| walk_at "exec While Compare cons nil") => `(tactic| (k_here; refine Here.out ?_))
set_option maxRecDepth 100000 in
set_option maxHeartbeats 2000000 in
theorem read_c (w : World) (mean : ExcName → Option Value) (mg mb : Str → Option Value) (news : List (Addr × Obj)) (x : Str) (t : Tok) (nm : Nat → Str) (tb : List (Str × Str)) (hT : TableOk tb nm) (hx : x.length ≤ 4000)
   (d : Addr) (o : Obj) (kvs : List (Str × Value)) (hm : (d, o) ∈ news) (hdict : Obj.IsDictOf (PySem.strKind PySem.Challenge.rw_xh0005_01.row.prog w) o kvs) (hkv : KvOf kvs tb) (hs : (d == sysModules) = false) :
    EscClaim PySem.Challenge.rw_xh0005_01.row.prog w (hd.heap_39 w.params) hd.view_39 (looseW hd.view_39 [Str.ofString "_controlCharPat"]) mean mg mb 81 news 1 [.str (toldS nm x) t, .ref d] (fun t => .str x t) := by
  have hf := hkv.flat
  have hall := hkv.texts
  have hL := hkv.look hT.look
  have hk : kvs.length ≤ 10 := by rw [hkv.len]; exact hT.few
  have hN := hT.names
  k_fill
  dsimp only [EscClaim]
  intros; rename_i hret
  w_strict
    (refine wpAny_call ?_
     (refine' code_defC ?k1 ?k2 ?k3 ?k4 ?k5 ?kA ?kF ?kK ?k6 ?k7 ?k8 ?k9 ?kB ?kD ?_ ?c2 ?c3 ?c4; (case kA => exact rfl); (case kF => exact rfl); (case kK => assumption); (case k1 => k_asm); (case k2 => k_asm); (case k3 => k_asm); (case k4 => k_asm); (case k5 => k_asm); (case k6 => k_is); (case k7 => k_is); (case k8 => ktr_room); (case k9 => exact BindsTo.of_eq rfl); (case kB => exact rfl); (case kD => decide +kernel); (case c2 => exact rfl); (case c3 => exact rfl); (case c4 => exact rfl); k_whole; intro g' L' h' tk' cells' FG' F' N' Y' B' X' T' l1; (try k_lt l1); k_cells Y'; (try simp only [List.cons_append, List.nil_append] at N'); (try dsimp only); (try k_lift B'); (try k_fold))
     k_steps
     refine ⟨_, _, _, _, rfl, rfl, hs, by k_asm, by k_asm, List.mem_cons_of_mem _ hm, hdict, by rw [PySem.sizeLine_eq]; omega, ?_⟩
     intro s₂ hs₂
     obtain ⟨g₂, rfl⟩ := hs₂
     refine rest_dict (List.mem_cons_of_mem _ hm) hall ?_ ?_
     · intro k nm' t₂ u₂ I oI C oC D₂ m₂ ys own h tk E' Q' hmem hC hx₂ F₂ N₂ hret₂
       have hlk := hL k nm' u₂ hmem
       have hm₂ : (d, o) ∈ news ++ own := List.mem_append_left _ hm
       simp only [List.cons_append] at N₂ hret₂
       have hI := Heap.lt_size (N₂ (I, oI) (List.mem_cons_self ..)).1
       have hCl := Heap.lt_size (N₂ (C, oC) (List.mem_cons_of_mem _ (List.mem_cons_self ..))).1
       have hDl := Heap.lt_size (N₂ (D₂, LCg.lst ys) (List.mem_cons_of_mem _ (List.mem_cons_of_mem _ (List.mem_cons_self ..)))).1
       k_steps
       exact hret₂ _ _ _ _ _ _ (by k_asm) (by k_asm) (Nat.ne_of_gt hI) (Nat.ne_of_gt hCl) (Nat.ne_of_gt hDl)
     · intro ys ps own hown hturn D₂ h tk F₂ N₂ off₂
       have hpairs := hown.pairs N₂ fun p hp => List.mem_cons_of_mem _ (List.mem_append_right _ hp)
       have hps : ps.length ≤ sizeLine := by rw [hturn.1, PySem.sizeLine_eq]; omega
       k_steps
       refine dict_made F₂ N₂ (Top.nolimit T') rfl (List.mem_cons_self ..) hpairs hps ?_
       intro d₃ o₃ h₃ tk₃ F₃ N₃ hs₃ hdict₃
       clear hpairs N₂ F₂ off₂ N' F'
       k_steps
       refine Here.mk ?_
       rename Fr _ _ _ _ => F₄
       rename News _ _ _ _ => N₄
       have N₅ := cb_drop N₄ (news := (d₃, o₃) :: news) (fun p hp => by
         rcases List.mem_cons.mp hp with rfl | hp
         · exact List.mem_cons_self ..
         · exact List.mem_cons_of_mem _ (List.mem_cons_of_mem _ (List.mem_append_left _ (List.mem_cons_of_mem _ hp))))
       clear N₄
       refine while_two (placeAt nm x) (readAt x) x.cps.toList.length (place_zero nm x) (read_zero x) F₄ N₅ (nW := Str.ofString "word") (nE := Str.ofString "end") (by decide +kernel) (by decide +kernel) (by decide +kernel) (by decide +kernel) (by decide +kernel) ?_ ?_ (by passes_own)
       · intro i hi h tk t1 t2 we ee Q' F₆ N₆ hq
         clear F₄ N₅
         have hXl : (toldS nm x).length ≤ 24000 := by have := told_length nm 6 hT.short x; omega
         have hp0 : 0 ≤ placeAt nm x i := Int.natCast_nonneg _
         have hplt : placeAt nm x i < (toldS nm x).length := place_lt hN x hi
         have hf₃ := hturn.back hkv hT.apart
         have hrl : (readAt x i).length ≤ 4000 := Nat.le_trans (read_len x i) hx
         have hsh := hT.short x.cps.toList[i]
         k_steps
         · refine Here.mk ?_
           rename (Txt.item _ _ == _) = true => hc
           have hw := word_named hN x hi hc
           rename Fr _ _ _ _ => F₇
           rw [hw] at F₇ ⊢
           refine call_get2_strTab (TabAt.ofNews (by k_asm) (List.mem_cons_self ..) hs₃ hdict₃ hf₃) (PyProof.V.Flat.str _ _) ?_
           intro v hv
           rw [lookup_getD, hT.back] at hv
           obtain ⟨t₇, rfl⟩ := hv.str_inv
           clear hw
           k_steps
           rename Fr _ _ _ _ => F₈
           have hps := place_succ nm x hi
           have hrs := read_succ x hi
           rw [hps, hrs] at F₈
           exact hq _ _ _ _ _ _ F₈ (by k_asm)
         · exact absurd (find_pos hN x hi (by assumption)) (by assumption)
         · refine Here.mk ?_
           rename (Txt.item _ _ == _) = false => hc
           have hw := word_single hN x hi hc
           rename Fr _ _ _ _ => F₇
           rw [hw] at F₇ ⊢
           refine call_get2_strTab (TabAt.ofNews (by k_asm) (List.mem_cons_self ..) hs₃ hdict₃ hf₃) (PyProof.V.Flat.str _ _) ?_
           intro v hv
           rw [lookup_getD, hT.back] at hv
           obtain ⟨t₇, rfl⟩ := hv.str_inv
           clear hw
           k_steps
           rename Fr _ _ _ _ => F₈
           have hps := place_succ nm x hi
           have hrs := read_succ x hi
           rw [hps, hrs] at F₈
           exact hq _ _ _ _ _ _ F₈ (by k_asm)
       · intro h tk t1 t2 we ee F₆ N₆
         clear F₄ N₅
         have hXl : (toldS nm x).length ≤ 24000 := by have := told_length nm 6 hT.short x; omega
         have hpl := place_last nm x
         rw [read_last] at F₆
         k_steps
         exact hret _ _ _ (by assumption) (by k_asm) (cb_drop (by k_asm) fun p hp => List.mem_cons_of_mem _ hp))
end
end Mine

section
open Mine
local macro_rules | `(tactic| walk_at "execs cons") => `(tactic| ((with_reducible refine wpAny_execs_cons ?_); try dsimp only))
local macro_rules | `(tactic| walk_at "execs cons") => `(tactic| (k_here; (with_reducible refine gen_toks ?_); intro tk htk))
local macro_rules | `(tactic| walk_at "execs nil") => `(tactic| (k_here; (with_reducible refine gen_toks ?_); intro tk htk))
local macro_rules | `(tactic| walk_at "evalPairs") => `(tactic| (k_here; refine pairTrees_nil_walk ?_))
local macro_rules | `(tactic| walk_at "Exists") => `(tactic| (k_here; refine kdp_made_str (by k_asm) (by first | k_asm | exact News.nil) (Top.nolimit (by k_asm)) (by rfl) (by first | exact ndM | exact ndP | exact ndH) (by rfl) ?_; intro h' o' F' N' l1 lo' hd' hf' ap'; (try k_lt l1)))
local macro_rules | `(tactic| walk_at "ite") => `(tactic| (k_here; (with_reducible refine ite_neg (ne_self _) ?_)))
local macro_rules | `(tactic| walk_at "call builtin:str.replace") => `(tactic| (k_here; k_dflt (refine repl_mono (by first | (exact Nat.succ_ne_zero _) | (refine Nat.ne_of_gt ?_; first | assumption | omega)) (Nat.succ_ne_zero _) (Nat.ne_of_lt (Nat.lt_succ_self _)) (by decide +kernel) (by first | omega | assumption) (by decide +kernel) ?_); intro t5 k5 hk5; (have hk5p : 0 < k5 := Nat.lt_of_lt_of_le (Nat.succ_pos _) hk5)))
local macro_rules | `(tactic| walk_at "call ref") => `(tactic| (k_here; refine Here.out ?_))
set_option maxRecDepth 100000 in
set_option maxHeartbeats 8000000 in
theorem PySem.Challenge.cw_xh0005_01_holds : PySem.Challenge.rw_xh0005_01.Holds := by
  refine Mine.hd ?_
  w_strict
    (k_go0
     all_goals try k_fold
     k_steps
     refine Here.mk ?_
     rename IntsAre _ _ => hI'
     rename Fr _ _ _ _ => F1
     rename News _ _ _ _ => N1
     rename Obj.IsDictOf _ _ (strPairs [_, _, _, _, _, _, _]) => hdM
     rename Obj.IsDictOf _ _ (strPairs [_, (Value.str (Str.ofString "<") _, _), _]) => hdP
     rename Obj.IsDictOf _ _ (strPairs [_, (Value.str (Str.ofString ">") _, _), _]) => hdH
     obtain ⟨hXl, hXc⟩ := text_facts hI' (by omega)
     generalize hXe : Txt.join (Str.ofString "") (List.map _ (List.filter _ _)) = X at hXl hXc F1 ⊢
     obtain ⟨kvsP, hP, hkP⟩ := packP hdP
     obtain ⟨kvsM, hM, hkM⟩ := packM hdM
     obtain ⟨kvsH, hH, hkH⟩ := packH hdH
     clear hdM hdP hdH
     have hRl : (rowsOf X).length ≤ 1603 := rows_len (by omega)
     have hTl : (toldS nmP X).length ≤ 378 := by have := told_length nmP 6 nmP_len X; omega
     have hR1 : (Txt.replace X (Str.ofString "\x0d\n") (Str.ofString "\n")).length ≤ 801 := row1_len (by omega)
     refine' use_c (cdata_c _ _ _ _ _ (X) _ (by omega)) ?k1 ?k2 ?k3 ?k4 ?k5 ?kK ?kd ?ku ?_
     case k1 => k_asm
     case k2 => k_asm
     case k3 => k_asm
     case k4 => k_asm
     case k5 => k_asm
     case kK => rfl
     case kd => decide
     case ku => exact Nat.le_of_ble_eq_true rfl
     intro t1 h1 tk1 htk1 F2 N2
     k_sweep
     k_steps
     refine Here.mk ?_
     refine' use_c (told_c _ _ _ _ _ X _ nmP tbP okP (by omega) _ _ kvsP ?hm hP hkP ?hs) ?k1 ?k2 ?k3 ?k4 ?k5 ?kK ?kd ?ku ?_
     case k1 => k_asm
     case k2 => k_asm
     case k3 => k_asm
     case k4 => k_asm
     case k5 => k_asm
     case kK => rfl
     case kd => decide
     case ku => exact Nat.le_of_ble_eq_true rfl
     case hm => k_mem
     case hs => assumption
     intro t1 h1 tk1 htk1 F2 N2
     k_sweep
     k_steps
     refine Here.mk ?_
     refine' use_c (cdata_c _ _ _ _ _ (X) _ (by omega)) ?k1 ?k2 ?k3 ?k4 ?k5 ?kK ?kd ?ku ?_
     case k1 => k_asm
     case k2 => k_asm
     case k3 => k_asm
     case k4 => k_asm
     case k5 => k_asm
     case kK => rfl
     case kd => decide
     case ku => exact Nat.le_of_ble_eq_true rfl
     intro t1 h1 tk1 htk1 F2 N2
     k_sweep
     k_steps
     refine Here.mk ?_
     refine' use_c (read_c _ _ _ _ _ (X) _ nmP tbP okP (by omega) _ _ kvsP ?hm hP hkP ?hs) ?k1 ?k2 ?k3 ?k4 ?k5 ?kK ?kd ?ku ?_
     case k1 => k_asm
     case k2 => k_asm
     case k3 => k_asm
     case k4 => k_asm
     case k5 => k_asm
     case kK => rfl
     case kd => decide
     case ku => exact Nat.le_of_ble_eq_true rfl
     case hm => k_mem
     case hs => assumption
     intro t1 h1 tk1 htk1 F2 N2
     k_sweep
     k_steps
     refine Here.mk ?_
     refine' use_c (escape_c _ _ _ _ _ X _ (by omega) hXc) ?k1 ?k2 ?k3 ?k4 ?k5 ?kK ?kd ?ku ?_
     case k1 => k_asm
     case k2 => k_asm
     case k3 => k_asm
     case k4 => k_asm
     case k5 => k_asm
     case kK => rfl
     case kd => decide
     case ku => exact Nat.le_of_ble_eq_true rfl
     intro t1 h1 tk1 htk1 F2 N2
     k_sweep
     k_steps
     refine Here.mk ?_
     refine' use_c (cdata_c _ _ _ _ _ (rowsOf X) _ (by omega)) ?k1 ?k2 ?k3 ?k4 ?k5 ?kK ?kd ?ku ?_
     case k1 => k_asm
     case k2 => k_asm
     case k3 => k_asm
     case k4 => k_asm
     case k5 => k_asm
     case kK => rfl
     case kd => decide
     case ku => exact Nat.le_of_ble_eq_true rfl
     intro t1 h1 tk1 htk1 F2 N2
     k_sweep
     k_steps
     refine Here.mk ?_
     refine' use_c (attrib_c _ _ _ _ _ X _ (by omega)) ?k1 ?k2 ?k3 ?k4 ?k5 ?kK ?kd ?ku ?_
     case k1 => k_asm
     case k2 => k_asm
     case k3 => k_asm
     case k4 => k_asm
     case k5 => k_asm
     case kK => rfl
     case kd => decide
     case ku => exact Nat.le_of_ble_eq_true rfl
     intro t1 h1 tk1 htk1 F2 N2
     k_sweep
     k_steps
     refine Here.mk ?_
     refine' use_c (told_c _ _ _ _ _ X _ nmM tbM okM (by omega) _ _ kvsM ?hm hM hkM ?hs) ?k1 ?k2 ?k3 ?k4 ?k5 ?kK ?kd ?ku ?_
     case k1 => k_asm
     case k2 => k_asm
     case k3 => k_asm
     case k4 => k_asm
     case k5 => k_asm
     case kK => rfl
     case kd => decide
     case ku => exact Nat.le_of_ble_eq_true rfl
     case hm => k_mem
     case hs => assumption
     intro t1 h1 tk1 htk1 F2 N2
     k_sweep
     k_steps
     refine Here.mk ?_
     refine' use_c (attrib_c _ _ _ _ _ X _ (by omega)) ?k1 ?k2 ?k3 ?k4 ?k5 ?kK ?kd ?ku ?_
     case k1 => k_asm
     case k2 => k_asm
     case k3 => k_asm
     case k4 => k_asm
     case k5 => k_asm
     case kK => rfl
     case kd => decide
     case ku => exact Nat.le_of_ble_eq_true rfl
     intro t1 h1 tk1 htk1 F2 N2
     k_sweep
     k_steps
     refine Here.mk ?_
     refine' use_c (read_c _ _ _ _ _ (X) _ nmM tbM okM (by omega) _ _ kvsM ?hm hM hkM ?hs) ?k1 ?k2 ?k3 ?k4 ?k5 ?kK ?kd ?ku ?_
     case k1 => k_asm
     case k2 => k_asm
     case k3 => k_asm
     case k4 => k_asm
     case k5 => k_asm
     case kK => rfl
     case kd => decide
     case ku => exact Nat.le_of_ble_eq_true rfl
     case hm => k_mem
     case hs => assumption
     intro t1 h1 tk1 htk1 F2 N2
     k_sweep
     k_steps
     refine Here.mk ?_
     refine' use_c (html_c _ _ _ _ _ X _ (by omega)) ?k1 ?k2 ?k3 ?k4 ?k5 ?kK ?kd ?ku ?_
     case k1 => k_asm
     case k2 => k_asm
     case k3 => k_asm
     case k4 => k_asm
     case k5 => k_asm
     case kK => rfl
     case kd => decide
     case ku => exact Nat.le_of_ble_eq_true rfl
     intro t1 h1 tk1 htk1 F2 N2
     k_sweep
     k_steps
     refine Here.mk ?_
     refine' use_c (told_c _ _ _ _ _ X _ nmH tbH okH (by omega) _ _ kvsH ?hm hH hkH ?hs) ?k1 ?k2 ?k3 ?k4 ?k5 ?kK ?kd ?ku ?_
     case k1 => k_asm
     case k2 => k_asm
     case k3 => k_asm
     case k4 => k_asm
     case k5 => k_asm
     case kK => rfl
     case kd => decide
     case ku => exact Nat.le_of_ble_eq_true rfl
     case hm => k_mem
     case hs => assumption
     intro t1 h1 tk1 htk1 F2 N2
     k_sweep
     k_steps
     refine Here.mk ?_
     refine' use_c (html_c _ _ _ _ _ X _ (by omega)) ?k1 ?k2 ?k3 ?k4 ?k5 ?kK ?kd ?ku ?_
     case k1 => k_asm
     case k2 => k_asm
     case k3 => k_asm
     case k4 => k_asm
     case k5 => k_asm
     case kK => rfl
     case kd => decide
     case ku => exact Nat.le_of_ble_eq_true rfl
     intro t1 h1 tk1 htk1 F2 N2
     k_sweep
     k_steps
     refine Here.mk ?_
     refine' use_c (read_c _ _ _ _ _ (X) _ nmH tbH okH (by omega) _ _ kvsH ?hm hH hkH ?hs) ?k1 ?k2 ?k3 ?k4 ?k5 ?kK ?kd ?ku ?_
     case k1 => k_asm
     case k2 => k_asm
     case k3 => k_asm
     case k4 => k_asm
     case k5 => k_asm
     case kK => rfl
     case kd => decide
     case ku => exact Nat.le_of_ble_eq_true rfl
     case hm => k_mem
     case hs => assumption
     intro t1 h1 tk1 htk1 F2 N2
     k_sweep
     k_steps
     refine Here.mk ?_
     refine' use_c (cdata_c _ _ _ _ _ (X) _ (by omega)) ?k1 ?k2 ?k3 ?k4 ?k5 ?kK ?kd ?ku ?_
     case k1 => k_asm
     case k2 => k_asm
     case k3 => k_asm
     case k4 => k_asm
     case k5 => k_asm
     case kK => rfl
     case kd => decide
     case ku => exact Nat.le_of_ble_eq_true rfl
     intro t1 h1 tk1 htk1 F2 N2
     k_sweep
     k_steps
     refine Here.mk ?_
     refine' use_c (cdata_c _ _ _ _ _ (toldS nmP X) _ (by omega)) ?k1 ?k2 ?k3 ?k4 ?k5 ?kK ?kd ?ku ?_
     case k1 => k_asm
     case k2 => k_asm
     case k3 => k_asm
     case k4 => k_asm
     case k5 => k_asm
     case kK => rfl
     case kd => decide
     case ku => exact Nat.le_of_ble_eq_true rfl
     intro t1 h1 tk1 htk1 F2 N2
     k_sweep
     k_steps
     refine Here.mk ?_
     refine' use_c (read_c _ _ _ _ _ (toldS nmP X) _ nmP tbP okP (by omega) _ _ kvsP ?hm hP hkP ?hs) ?k1 ?k2 ?k3 ?k4 ?k5 ?kK ?kd ?ku ?_
     case k1 => k_asm
     case k2 => k_asm
     case k3 => k_asm
     case k4 => k_asm
     case k5 => k_asm
     case kK => rfl
     case kd => decide
     case ku => exact Nat.le_of_ble_eq_true rfl
     case hm => k_mem
     case hs => assumption
     intro t1 h1 tk1 htk1 F2 N2
     k_sweep
     k_steps
     refine Here.mk ?_
     refine' use_c (read_c _ _ _ _ _ (X) _ nmP tbP okP (by omega) _ _ kvsP ?hm hP hkP ?hs) ?k1 ?k2 ?k3 ?k4 ?k5 ?kK ?kd ?ku ?_
     case k1 => k_asm
     case k2 => k_asm
     case k3 => k_asm
     case k4 => k_asm
     case k5 => k_asm
     case kK => rfl
     case kd => decide
     case ku => exact Nat.le_of_ble_eq_true rfl
     case hm => k_mem
     case hs => assumption
     intro t1 h1 tk1 htk1 F2 N2
     k_sweep
     k_steps)
end
