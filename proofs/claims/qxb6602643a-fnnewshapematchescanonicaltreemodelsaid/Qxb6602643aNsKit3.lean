/- newShape's nodes gather: laws on worlds for the fourth and fifth phases; what newShape leaves. -/
import Derived.Test.Qxb6602643aNsKit2
namespace Go.Proofs.Qxb6602643a
open Go.RowKit

/-- BLOCK b BEGINS WITH n CELLS, NONE FROZEN, CELL i HOLDING 'f i' -/
def rowPre (w : World) (b : Nat) (t : TypeId) (n : Nat) (f : Nat → Value) : Prop :=
  ∃ c : Array Value, w.heap[b]? = some (.cells c t (0, 0)) ∧ n ≤ c.size ∧ ∀ i, i < n → c[i]? = some (f i)

namespace rowPre
variable {w : World} {b : Nat} {t : TypeId} {n : Nat} {f g : Nat → Value}
theorem cell (h : rowPre w b t n f) {i : Nat} (hi : i < n) : w.cell? ⟨b, i, none⟩ = some (f i) := by
  obtain ⟨c, hb, _, hc⟩ := h
  simp [World.cell?, hb, hc i hi]
theorem frozen (h : rowPre w b t n f) (i : Nat) : w.frozen? ⟨b, i, none⟩ = false := by
  obtain ⟨c, hb, _, _⟩ := h
  simp [World.frozen?, hb]
theorem lt (h : rowPre w b t n f) : b < w.heap.size := by
  obtain ⟨c, hb, _, _⟩ := h
  exact (Array.getElem?_eq_some_iff.1 hb).1
theorem congr (h : rowPre w b t n f) (e : ∀ i, i < n → f i = g i) : rowPre w b t n g := by
  obtain ⟨c, hb, hn, hc⟩ := h
  exact ⟨c, hb, hn, fun i hi => by rw [hc i hi, e i hi]⟩
theorem of_block {w' : World} (h : rowPre w b t n f) (e : w'.heap[b]? = w.heap[b]?) : rowPre w' b t n f := by
  obtain ⟨c, hb, hn, hc⟩ := h
  exact ⟨c, e.trans hb, hn, hc⟩
theorem set (h : rowPre w b t n f) (i : Nat) (v : Value) : rowPre (w.setCell ⟨b, i, none⟩ v) b t n (fun j => if j = i then v else f j) := by
  obtain ⟨c, hb, hn, hc⟩ := h
  refine ⟨c.setIfInBounds i v, ?_, by simpa using hn, fun j hj => ?_⟩
  · simp [World.setCell, Array.getElem?_modify, hb]
  · rw [Array.getElem?_setIfInBounds]
    by_cases e : j = i
    · subst e
      simp [show j < c.size from by omega]
    · rw [if_neg (fun h => e h.symm)]
      show c[j]? = some (if j = i then v else f j)
      rw [if_neg e]
      exact hc j hj
theorem setOther (h : rowPre w b t n f) {a : Addr} (ha : b ≠ a.block) (v : Value) : rowPre (w.setCell a v) b t n f := h.of_block (Below.heap_setCell _ _ _ _ ha)
theorem alloc (h : rowPre w b t n f) (o : Obj) : rowPre (w.alloc o) b t n f := h.of_block (Below.heap_alloc _ _ _ h.lt)
theorem drew (h : rowPre w b t n f) : rowPre w.drew b t n f := h
theorem drewN (h : rowPre w b t n f) (k : Nat) : rowPre (w.drewN k) b t n f := h.of_block rfl
end rowPre

/-- the cells of a node -/
def ndC (st ln on dep : Nat) (c0 c1 : Int) : Nat → Value
  | 0 => .int .u64 (st : Nat)
  | 1 => .int .u64 (ln : Nat)
  | 2 => .int .u64 (on : Nat)
  | 3 => .int .u64 0
  | 4 => .int .i64 (dep : Nat)
  | 5 => .int .i32 c0
  | 6 => .int .i32 c1
  | 7 => .int .u32 0
  | _ => .int .u32 0
/-- the cells of nodes -/
def ndF (dep st ln on : Nat → Nat) (ch : Nat → Nat → Int) (x : Nat) : Value := ndC (st (x / 9)) (ln (x / 9)) (on (x / 9)) (dep (x / 9)) (ch (x / 9) 0) (ch (x / 9) 1) (x % 9)

theorem ndF_at (dep st ln on : Nat → Nat) (ch : Nat → Nat → Int) (k j : Nat) (hj : j < 9) : ndF dep st ln on ch (k * 9 + j) = ndC (st k) (ln k) (on k) (dep k) (ch k 0) (ch k 1) j := by
  unfold ndF
  rw [show (k * 9 + j) % 9 = j from by omega, show (k * 9 + j) / 9 = k from by omega]

def upd (f : Nat → Nat) (k v : Nat) : Nat → Nat := fun x => if x = k then v else f x
def updC (ch : Nat → Nat → Int) (k b : Nat) (v : Int) : Nat → Nat → Int := fun x y => if x = k ∧ y = b then v else ch x y

theorem split9 (x : Nat) : ∃ k j, j < 9 ∧ x = k * 9 + j := ⟨x / 9, x % 9, by omega, by omega⟩

theorem nd_st {dep st ln on : Nat → Nat} {ch : Nat → Nat → Int} (k v x : Nat) : (if x = k * 9 then .int .u64 (v : Nat) else ndF dep st ln on ch x) = ndF dep (upd st k v) ln on ch x := by
  obtain ⟨a, j, hj, rfl⟩ := split9 x
  rw [ndF_at _ _ _ _ _ a j hj, ndF_at _ _ _ _ _ a j hj]
  match j, hj with
  | 0, _ =>
    by_cases e : a = k
    · subst e; simp [upd, ndC]
    · rw [if_neg (by omega)]; simp [upd, e]
  | 1, _ | 2, _ | 3, _ | 4, _ | 5, _ | 6, _ | 7, _ | 8, _ => rw [if_neg (by omega)]; rfl
theorem nd_ln {dep st ln on : Nat → Nat} {ch : Nat → Nat → Int} (k v x : Nat) : (if x = k * 9 + 1 then .int .u64 (v : Nat) else ndF dep st ln on ch x) = ndF dep st (upd ln k v) on ch x := by
  obtain ⟨a, j, hj, rfl⟩ := split9 x
  rw [ndF_at _ _ _ _ _ a j hj, ndF_at _ _ _ _ _ a j hj]
  match j, hj with
  | 1, _ =>
    by_cases e : a = k
    · subst e; simp [upd, ndC]
    · rw [if_neg (by omega)]; simp [upd, e]
  | 0, _ | 2, _ | 3, _ | 4, _ | 5, _ | 6, _ | 7, _ | 8, _ => rw [if_neg (by omega)]; rfl
theorem nd_on {dep st ln on : Nat → Nat} {ch : Nat → Nat → Int} (k v x : Nat) : (if x = k * 9 + 2 then .int .u64 (v : Nat) else ndF dep st ln on ch x) = ndF dep st ln (upd on k v) ch x := by
  obtain ⟨a, j, hj, rfl⟩ := split9 x
  rw [ndF_at _ _ _ _ _ a j hj, ndF_at _ _ _ _ _ a j hj]
  match j, hj with
  | 2, _ =>
    by_cases e : a = k
    · subst e; simp [upd, ndC]
    · rw [if_neg (by omega)]; simp [upd, e]
  | 0, _ | 1, _ | 3, _ | 4, _ | 5, _ | 6, _ | 7, _ | 8, _ => rw [if_neg (by omega)]; rfl
theorem nd_ch {dep st ln on : Nat → Nat} {ch : Nat → Nat → Int} (k b : Nat) (hb : b < 2) (v : Int) (x : Nat) : (if x = k * 9 + 5 + b then .int .i32 v else ndF dep st ln on ch x) = ndF dep st ln on (updC ch k b v) x := by
  obtain ⟨a, j, hj, rfl⟩ := split9 x
  rw [ndF_at _ _ _ _ _ a j hj, ndF_at _ _ _ _ _ a j hj]
  match j, hj with
  | 5, _ =>
    by_cases e : a = k ∧ 0 = b
    · obtain ⟨rfl, rfl⟩ := e; simp [updC, ndC]
    · rw [if_neg (by omega)]; simp only [updC, if_neg e, ndC]
  | 6, _ =>
    by_cases e : a = k ∧ 1 = b
    · obtain ⟨rfl, rfl⟩ := e; simp [updC, ndC]
    · rw [if_neg (by omega)]; simp only [updC, if_neg e, ndC]
  | 0, _ | 1, _ | 2, _ | 3, _ | 4, _ | 7, _ | 8, _ => rw [if_neg (by omega)]; rfl

/-- the depth of node k -/
def depN (L : Nat → Nat) (k : Nat) : Nat := (dl L 32).getD k 0
theorem depN_id (L : Nat → Nat) (q d : Nat) (hq : q < lonT L 32) (hd : d < ol L q) : depN L (idN L q d) = d := by
  have h := idN_between L q d hq hd
  have h32 := (oc_facts L q hq).2.2.1
  unfold depN
  rw [List.getD_eq_getElem?_getD, dl_get L 32 d _ (by omega) h.1 h.2]
  rfl
theorem idN_lt (L : Nat → Nat) (q d : Nat) (hq : q < lonT L 32) (hd : d < ol L q) : idN L q d < NB L 32 := by
  have h := idN_between L q d hq hd
  have h32 := (oc_facts L q hq).2.2.1
  have := NB_mono L (d + 1) 32 (by omega)
  omega

/-- where bits lead, behind the positions below i and the depths below d of position i -/
def CH (L : Nat → Nat) (i d : Nat) (ch : Nat → Nat → Int) : Prop :=
  (∀ q e, q < lonT L 32 → e < ol L q → (q < i ∨ (q = i ∧ e < d)) → ch (idN L q e) (bitN L q e) = tgt L q e) ∧
  (∀ k b, (∀ q e, q < lonT L 32 → e < ol L q → (q < i ∨ (q = i ∧ e < d)) → ¬ (idN L q e = k ∧ bitN L q e = b)) → ch k b = 0)

theorem CH_step {L : Nat → Nat} {i d : Nat} {ch : Nat → Nat → Int} (h : CH L i d ch) (hi : i < lonT L 32) (hd : d < ol L i) : CH L i (d + 1) (updC ch (idN L i d) (bitN L i d) (tgt L i d)) := by
  refine ⟨?_, ?_⟩
  · intro q e hq he hc
    unfold updC
    by_cases x : idN L q e = idN L i d ∧ bitN L q e = bitN L i d
    · rw [if_pos x]
      obtain ⟨a, b⟩ := idN_inj L q e i d hq he hi hd x.1
      subst a
      exact (tgt_same L q i e hq hi he hd b x.2).symm
    · rw [if_neg x]
      refine h.1 q e hq he ?_
      rcases hc with hc | ⟨rfl, hc⟩
      · exact .inl hc
      · by_cases y : e = d
        · subst y; exact absurd ⟨rfl, rfl⟩ x
        · exact .inr ⟨rfl, by omega⟩
  · intro k b hall
    unfold updC
    rw [if_neg]
    · refine h.2 k b ?_
      intro q e hq he hc
      exact hall q e hq he (by omega)
    · rintro ⟨rfl, rfl⟩
      exact hall i d hi hd (by omega) ⟨rfl, rfl⟩
theorem CH_row {L : Nat → Nat} {i : Nat} {ch : Nat → Nat → Int} (h : CH L i (ol L i) ch) : CH L (i + 1) 0 ch := by
  refine ⟨fun q e hq he hc => h.1 q e hq he ?_, fun k b hall => h.2 k b fun q e hq he hc => hall q e hq he ?_⟩
  · by_cases x : q = i
    · subst x; exact .inr ⟨rfl, he⟩
    · exact .inl (by omega)
  · rcases hc with hc | ⟨rfl, hc⟩
    · exact .inl (by omega)
    · exact .inl (by omega)

/-- what the nodes have gathered -/
def lnG (L C : Nat → Nat) (i d k : Nat) : Nat := gath L (fun q _ => C (oc L q)) k i d % 18446744073709551616
def onG (L C : Nat → Nat) (i d k : Nat) : Nat := gath L (fun q e => bitN L q e * C (oc L q)) k i d % 18446744073709551616
theorem lnG_step (L C : Nat → Nat) (i d : Nat) : lnG L C i (d + 1) = upd (lnG L C i d) (idN L i d) ((lnG L C i d (idN L i d) + C (oc L i)) % 18446744073709551616) := by
  funext k
  unfold lnG upd
  rw [gath_step]
  by_cases e : k = idN L i d
  · rw [if_pos e, if_pos e.symm, e]; omega
  · rw [if_neg e, if_neg (fun x => e x.symm), Nat.add_zero]
theorem onG_step (L C : Nat → Nat) (i d : Nat) : onG L C i (d + 1) = upd (onG L C i d) (idN L i d) ((onG L C i d (idN L i d) + bitN L i d * C (oc L i)) % 18446744073709551616) := by
  funext k
  unfold onG upd
  rw [gath_step]
  by_cases e : k = idN L i d
  · rw [if_pos e, if_pos e.symm, e]; omega
  · rw [if_neg e, if_neg (fun x => e x.symm), Nat.add_zero]
theorem lnG_row (L C : Nat → Nat) (i : Nat) : lnG L C i (ol L i) = lnG L C (i + 1) 0 := by funext k; unfold lnG; rw [gath_row]
theorem onG_row (L C : Nat → Nat) (i : Nat) : onG L C i (ol L i) = onG L C (i + 1) 0 := by funext k; unfold onG; rw [gath_row]
/-- where node k starts -/
def stG (L C : Nat → Nat) (k : Nat) : Nat := sumF (lnG L C (lonT L 32) 0) k % 18446744073709551616

/-- the world in the fourth and fifth phases: the nodes are all there -/
structure NsD (L : Nat → Nat) (w : World) (g M nb cap : Nat) (F st ln on : Nat → Nat) (ch : Nat → Nat → Int) (wr : World) : Prop where
  B : NsB L w g M wr
  sh : wr.rowIs w.heap.size 65 513 (shF (.slice (some ⟨nb, 0, none⟩) (NB L 32) cap) (pthT L (M + 1) (lonT L 32)) (codT L (lonT L 32)))
  pb : wr.rowIs (M + 1) 21 (offT L (lonT L 32)) (fun x => .int .i32 (F x : Nat))
  pi : PI L 32 0 F
  nd : rowPre wr nb 67 (NB L 32 * 9) (ndF (depN L) st ln on ch)
  hnb : M + 2 ≤ nb
  hcap : NB L 32 ≤ cap

namespace NsD
variable {L : Nat → Nat} {w wr : World} {g M nb cap : Nat} {F st ln on : Nat → Nat} {ch : Nat → Nat → Int}
theorem drew (h : NsD L w g M nb cap F st ln on ch wr) : NsD L w g M nb cap F st ln on ch wr.drew := ⟨h.B.drew, h.sh, h.pb, h.pi, h.nd, h.hnb, h.hcap⟩
theorem drewN (h : NsD L w g M nb cap F st ln on ch wr) (n : Nat) : NsD L w g M nb cap F st ln on ch (wr.drewN n) := ⟨h.B.drewN n, rowIs_drewN h.sh n, rowIs_drewN h.pb n, h.pi, h.nd.drewN n, h.hnb, h.hcap⟩
theorem setNode (h : NsD L w g M nb cap F st ln on ch wr) (x : Nat) (v : Value) {st' ln' on' : Nat → Nat} {ch' : Nat → Nat → Int}
    (he : ∀ i, (if i = x then v else ndF (depN L) st ln on ch i) = ndF (depN L) st' ln' on' ch' i) : NsD L w g M nb cap F st' ln' on' ch' (wr.setCell ⟨nb, x, none⟩ v) := by
  have a := h.B.hg
  have b := h.B.hgM
  have c := h.hnb
  exact ⟨h.B.setCell (.inr (by show M < nb; omega)) _, h.sh.setOther (by show w.heap.size ≠ nb; omega) _, h.pb.setOther (by show M + 1 ≠ nb; omega) _, h.pi, (h.nd.set x v).congr (fun i _ => he i), h.hnb, h.hcap⟩
theorem nodes0 (h : NsD L w g M nb cap F st ln on ch wr) : wr.cell? ⟨w.heap.size, 0, none⟩ = some (.slice (some ⟨nb, 0, none⟩) (NB L 32) cap) := h.sh.cell (by omega)
theorem node (h : NsD L w g M nb cap F st ln on ch wr) {k j : Nat} (hk : k < NB L 32) (hj : j < 9) : wr.cell? ⟨nb, k * 9 + j, none⟩ = some (ndC (st k) (ln k) (on k) (depN L k) (ch k 0) (ch k 1) j) := by
  rw [h.nd.cell (by omega), ndF_at _ _ _ _ _ _ j hj]
theorem child (h : NsD L w g M nb cap F st ln on ch wr) {k b : Nat} (hk : k < NB L 32) (hb : b < 2) : wr.cell? ⟨nb, k * 9 + 5 + b, none⟩ = some (.int .i32 (ch k b)) := by
  match b, hb with
  | 0, _ => exact h.node hk (by omega)
  | 1, _ => exact h.node (j := 6) hk (by omega)
theorem code (h : NsD L w g M nb cap F st ln on ch wr) {i : Nat} (hi : i < lonT L 32) : wr.cell? ⟨w.heap.size, 257 + oc L i, none⟩ = some (.int .u64 (pr L i (ol L i) : Nat)) := by
  have a1 := (oc_facts L i hi).1
  rw [h.sh.cell (by omega), shF_code, codT_all L i hi]
theorem path (h : NsD L w g M nb cap F st ln on ch wr) {i : Nat} (hi : i < lonT L 32) : wr.cell? ⟨w.heap.size, 1 + oc L i, none⟩ = some (.slice (some ⟨M + 1, offT L i, none⟩) (ol L i) (ol L i)) := by
  have a1 := (oc_facts L i hi).1
  rw [h.sh.cell (by omega), shF_path _ _ _ _ a1, pthT_all L _ i hi]
theorem pid (h : NsD L w g M nb cap F st ln on ch wr) {i d : Nat} (hi : i < lonT L 32) (hd : d < ol L i) : wr.cell? ⟨M + 1, offT L i + d, none⟩ = some (.int .i32 (idN L i d : Nat)) := by
  have h32 := (oc_facts L i hi).2.2.1
  rw [h.pb.cell (off_lt L i d hi hd), h.pi i d hi hd (.inl (by omega))]
end NsD

/-- WHAT newShape LEAVES -/
def NsPost (L C : Nat → Nat) (w : World) (e : Ending) (w' : World) : Prop :=
  e = .returned (.pointer (some ⟨w.heap.size, 0, none⟩)) ∧ ∃ g M nb cap F ch, NsD L w g M nb cap F (stG L C) (lnG L C (lonT L 32) 0) (onG L C (lonT L 32) 0) ch w' ∧ CH L (lonT L 32) 0 ch

def hdC : Code → Code | .seq a _ => a | c => c
def tlC : Code → Code | .seq _ b => b | c => c
def tailC : Nat → Code → Code
  | 0, c => c
  | n + 1, c => tailC n (tlC c)
end Go.Proofs.Qxb6602643a
