/-
  A NEW STORE, A NEW VIEW.
-/
import Derived.Test.YbulkkeiFmtView2
import Derived.Test.YbulkkeiFmtErr
namespace Go.Proofs.YbulkkeiFmt
open Go.RowKit Go.Extern.Stop Go.Stop Go.Extern
set_option maxRecDepth 8000
attribute [local go_sem ↓] Go.wp_at_zero Go.wp_at_succ

theorem mk74 (w : World) : (Instr.makeMap 74 none).run Ybaf.prog w = .ok (.map (some w.heap.size)) (w.alloc (.map #[] 0)) := by kernel_rfl
theorem mk79 (w : World) : (Instr.makeMap 79 none).run Ybaf.prog w = .ok (.map (some w.heap.size)) (w.alloc (.map #[] 0)) := by kernel_rfl
theorem mk80 (w : World) : (Instr.makeMap 80 none).run Ybaf.prog w = .ok (.map (some w.heap.size)) (w.alloc (.map #[] 0)) := by kernel_rfl
theorem mk81 (w : World) : (Instr.makeMap 81 none).run Ybaf.prog w = .ok (.map (some w.heap.size)) (w.alloc (.map #[] 0)) := by kernel_rfl
theorem mk64 (w : World) : (Instr.makeMap 64 none).run Ybaf.prog w = .ok (.map (some w.heap.size)) (w.alloc (.map #[] 0)) := by kernel_rfl
theorem mk65 (w : World) : (Instr.makeMap 65 none).run Ybaf.prog w = .ok (.map (some w.heap.size)) (w.alloc (.map #[] 0)) := by kernel_rfl
theorem mk63 (w : World) : (Instr.makeMap 63 none).run Ybaf.prog w = .ok (.map (some w.heap.size)) (w.alloc (.map #[] 0)) := by kernel_rfl
attribute [local go_sem] mk74 mk79 mk80 mk81 mk64 mk65 mk63

set_option maxHeartbeats 3200000 in
/-- The rule's own block. -/
theorem notNone (b : Nat) (bar : Bool) (n : Int) (w : World) (hb : w.heap[b]? = some (.cells #[.bool bar, .int .i64 n] 29 (0, 0))) :
    Calls Ybaf.prog 77 #[.pointer (some ⟨b, 0, none⟩)] w fun e w' => e = .returned (.bool bar) ∧ ∃ m, w' = w.setCell ⟨b, 1, none⟩ (.int .i64 m) := by
  have c0 : w.cell? ⟨b, 0, none⟩ = some (.bool bar) := by simp [World.cell?, hb]
  have c1 : w.cell? ⟨b, 1, none⟩ = some (.int .i64 n) := by simp [World.cell?, hb]
  have f1 : w.frozen? ⟨b, 1, none⟩ = false := by simp [World.frozen?, hb]
  clear hb
  go_enter Ybaf.func77, Ybaf.ntmps77
  go_wp2_with fail
  go_ret
  exact ⟨rfl, _, rfl⟩

def zpB : Array Value := #[.string ⟨#[103, 101, 110, 101, 115, 105, 115]⟩, .string ⟨#[]⟩, .string ⟨#[]⟩, .slice none 0 0, .bool true, .int .i64 0, .int .i64 0]
/-- The world behind NewStore. -/
def newSW (ch : Int) (w : World) : World :=
  ((((((w.alloc (.map #[] 0)).alloc (.map #[] 0)).alloc (.cells zpB 88)).alloc (.map #[] 0)).alloc (.map #[] 0)).alloc
    (.cells (storeC ch w.heap.size (.slice none 0 0) (.pointer (some ⟨w.heap.size + 1 + 1, 0, none⟩)) (w.heap.size + 1) (.slice none 0 0) (w.heap.size + 1 + 1 + 1) (w.heap.size + 1 + 1 + 1 + 1)) 83))

set_option maxHeartbeats 3200000 in
theorem newStore_ok (ch : Int) (hch : 1 ≤ ch) (w : World) :
    Calls Ybaf.prog 9 #[.int .i64 ch] w fun e w' => e = .returned (.tuple #[.pointer (some ⟨w.heap.size + 1 + 1 + 1 + 1 + 1, 0, none⟩), .nilIface]) ∧ w' = newSW ch w := by
  go_enter Ybaf.func9, Ybaf.ntmps9
  go_wp2_with fail
  all_goals try (exfalso; omega)
  refine bodyPost_ret (v := .tuple #[.pointer (some ⟨w.heap.size + 1 + 1 + 1 + 1 + 1, 0, none⟩), .nilIface]) (by simp [results]) rfl ?_
  exact ⟨rfl, rfl⟩

theorem meth (f : Nat) (rb : Nat) (w : World) : (method (f + 1) 27 (.pointer (some ⟨rb, 0, none⟩)) "NotarizesNone").run Ybaf.prog w = .ok (77, .pointer (some ⟨rb, 0, none⟩)) w := by kernel_rfl

def newV1 (rb ga : Nat) (m : Int) (w : World) : World :=
  ((w.setCell ⟨rb, 1, none⟩ (.int .i64 m)).alloc (.cells #[.pointer (some ⟨ga, 0, none⟩), .int .u8 2, .bool true, .pointer none, .pointer none, .int .i64 0, .bool true, .map none, .nilIface, .bool false, .slice none 0 0] 94)).alloc (.map #[] 0)
def vk (rb : Nat) (bar : Bool) (b : Nat) : VK := ⟨.iface 27 (.pointer (some ⟨rb, 0, none⟩)), .bool bar, .pointer (some ⟨b, 0, none⟩), .map (some (b + 1 + 1 + 1)), .map (some (b + 1 + 1 + 1 + 1)), .map (some (b + 1 + 1)), .slice (some ⟨b + 1 + 1 + 1 + 1 + 1 + 1, 0, none⟩) 1 1, .pointer (some ⟨b, 0, none⟩), .pointer (some ⟨b, 0, none⟩)⟩
/-- The world behind NewView. -/
def newVW (s rb ga : Nat) (bar : Bool) (m : Int) (w : World) : World :=
  ((((((newV1 rb ga m w).alloc (.map #[] 0)).alloc (.map #[] 0)).alloc (.map #[] 0)).alloc (.cells #[.pointer (some ⟨w.heap.size, 0, none⟩)] 59)).alloc (.cells #[.slice (some ⟨w.heap.size + 1 + 1 + 1 + 1 + 1, 0, none⟩) 1 1] 60)).alloc
    (.cells (viewC (vk rb bar w.heap.size) s (.slice none 0 0) (.slice none 0 0) 0 (w.heap.size + 1) (.slice none 0 0) (.slice none 0 0)) 70)

set_option maxHeartbeats 6400000 in
theorem newView_ok (w : World) (s : Nat) (rb : Nat) (bar : Bool) (n : Int) (ga : Nat) (hgp : w.cell? ⟨s, 4, none⟩ = some (.pointer (some ⟨ga, 0, none⟩))) (hb : w.heap[rb]? = some (.cells #[.bool bar, .int .i64 n] 29 (0, 0))) :
    Calls Ybaf.prog 10 #[.pointer (some ⟨s, 0, none⟩), .iface 27 (.pointer (some ⟨rb, 0, none⟩))] w fun e w' => e = .returned (.tuple #[.pointer (some ⟨w.heap.size + 1 + 1 + 1 + 1 + 1 + 1 + 1, 0, none⟩), .nilIface]) ∧ ∃ m, w' = newVW s rb ga bar m w := by
  have zb : rb < w.heap.size := (Array.getElem?_eq_some_iff.1 hb).1
  have hm : ∀ w', (method 282 27 (.pointer (some ⟨rb, 0, none⟩)) "NotarizesNone").run Ybaf.prog w' = .ok (77, .pointer (some ⟨rb, 0, none⟩)) w' := meth 281 rb
  have HBK : Hid (w.heap[rb]? = some (.cells #[.bool bar, .int .i64 n] 29 (0, 0))) := hb
  clear hb
  go_enter Ybaf.func10, Ybaf.ntmps10
  go_wp2_with fail
  refine (notNone rb bar n _ ((Below.heap_alloc w _ rb zb).trans HBK.out)).mono ?_
  rintro e w2 ⟨rfl, m, rfl⟩
  go_wp2_with fail
  refine bodyPost_ret (v := .tuple #[.pointer (some ⟨w.heap.size + 1 + 1 + 1 + 1 + 1 + 1 + 1, 0, none⟩), .nilIface]) (by simp [results]) rfl ?_
  exact ⟨rfl, m, rfl⟩

def SA.new (ch : Int) (b : Nat) : SA := ⟨b + 1 + 1 + 1 + 1 + 1, ch, b, .pointer (some ⟨b + 1 + 1, 0, none⟩), b + 1, b + 1 + 1 + 1, b + 1 + 1 + 1 + 1⟩
def SG.empty : SG := ⟨.slice none 0 0, .slice none 0 0, [], [], [], [], [], [], fun _ => []⟩
def VG.empty : VG := ⟨.slice none 0 0, .slice none 0 0, [], [], 0, .slice none 0 0, .slice none 0 0, [], 0⟩

theorem Plain.empty : Plain SG.empty where
  recs := ⟨by simp [SG.empty], by simp [SG.empty], by simp [SG.empty], by simp [SG.empty], by simp [SG.empty]⟩
  index k v := by simp [SG.empty, get_nil]
  cnt := by simp [SG.empty, known, get_nil]
  slot := by simp [SG.empty]
  cslen := by simp [SG.empty]
  roles := by simp [SG.empty]
  rlen := by simp [SG.empty]
  eu := by simp [SG.empty, get_nil]

theorem newS_ok (ch : Int) (w : World) (L : Nat → Prop) (hL : ∀ k, L k → k < w.heap.size) : StoreOk (SA.new ch w.heap.size) L (newSW ch w) SG.empty ∧ (SA.new ch w.heap.size).Ok L ∧ Fr L [] [] w (newSW ch w) ∧ (newSW ch w).heap.size = w.heap.size + 6 := by
  have hm : ∀ {κ : Type} (ι : κ → Value) (w' : World) (k : Nat), w'.heap[k]? = some (Obj.map #[] 0) → MapAt ι w' k [] := fun ι w' k h => ⟨#[], 0, h, rfl⟩
  have h0 : (newSW ch w).heap[w.heap.size]? = some (Obj.map #[] 0) := by
    unfold newSW
    rw [Below.heap_alloc _ _ _ (by simp <;> omega), Below.heap_alloc _ _ _ (by simp <;> omega), Below.heap_alloc _ _ _ (by simp <;> omega), Below.heap_alloc _ _ _ (by simp <;> omega), Below.heap_alloc _ _ _ (by simp)]
    exact heap_alloc_new w _
  have h1 : (newSW ch w).heap[w.heap.size + 1]? = some (Obj.map #[] 0) := by
    unfold newSW
    rw [Below.heap_alloc _ _ _ (by simp <;> omega), Below.heap_alloc _ _ _ (by simp <;> omega), Below.heap_alloc _ _ _ (by simp <;> omega), Below.heap_alloc _ _ _ (by simp)]
    have := heap_alloc_new (w.alloc (.map #[] 0)) (.map #[] 0)
    simpa using this
  have h3 : (newSW ch w).heap[w.heap.size + 1 + 1 + 1]? = some (Obj.map #[] 0) := by
    unfold newSW
    rw [Below.heap_alloc _ _ _ (by simp <;> omega), Below.heap_alloc _ _ _ (by simp)]
    have := heap_alloc_new (((w.alloc (.map #[] 0)).alloc (.map #[] 0)).alloc (.cells zpB 88)) (.map #[] 0)
    simpa using this
  have h4 : (newSW ch w).heap[w.heap.size + 1 + 1 + 1 + 1]? = some (Obj.map #[] 0) := by
    unfold newSW
    rw [Below.heap_alloc _ _ _ (by simp)]
    have := heap_alloc_new ((((w.alloc (.map #[] 0)).alloc (.map #[] 0)).alloc (.cells zpB 88)).alloc (.map #[] 0)) (.map #[] 0)
    simpa using this
  have h5 : (newSW ch w).heap[w.heap.size + 1 + 1 + 1 + 1 + 1]? = some (.cells (storeC ch w.heap.size (.slice none 0 0) (.pointer (some ⟨w.heap.size + 1 + 1, 0, none⟩)) (w.heap.size + 1) (.slice none 0 0) (w.heap.size + 1 + 1 + 1) (w.heap.size + 1 + 1 + 1 + 1)) 83 (0, 0)) := by
    unfold newSW
    have := heap_alloc_new (((((w.alloc (.map #[] 0)).alloc (.map #[] 0)).alloc (.cells zpB 88)).alloc (.map #[] 0)).alloc (.map #[] 0)) (.cells (storeC ch w.heap.size (.slice none 0 0) (.pointer (some ⟨w.heap.size + 1 + 1, 0, none⟩)) (w.heap.size + 1) (.slice none 0 0) (w.heap.size + 1 + 1 + 1) (w.heap.size + 1 + 1 + 1 + 1)) 83)
    simpa using this
  have hn : ∀ j, w.heap.size ≤ j → ¬ L j := fun j hj hl => by have := hL j hl; omega
  refine ⟨⟨h5, hm _ _ _ h0, hm _ _ _ h1, hm _ _ _ h3, hm _ _ _ h4, by simp [Once, SG.empty], by simp [OnceI, SG.empty], ⟨fun k => Row.nil L _ 103 4, by simp [rv, SG.empty, get_nil, Value.ownBlock]⟩, Row.nil L _ 122 10, Row.nil L _ 3 1, ⟨by simp [SG.empty], by simp [SG.empty, get_nil]⟩, by intro i r hi; simp [SG.empty] at hi, Plain.empty⟩, ?_, ?_, ?_⟩
  · unfold SA.new
    exact ⟨hn _ (by simp <;> omega), hn _ (Nat.le_refl _), hn _ (by simp), hn _ (by simp <;> omega), hn _ (by simp <;> omega), by simp <;> omega, by simp, by simp <;> omega, by simp <;> omega, by simp, by simp <;> omega⟩
  · unfold newSW
    exact ((((((Fr.refl L [] [] w).alloc _).alloc _).alloc _).alloc _).alloc _).alloc _
  · unfold newSW
    simp

theorem newV_ok {A : SA} {L : Nat → Prop} {w : World} (hS : StoreOk A L w SG.empty) (hA : A.Ok L) (hL : ∀ k, L k → k < w.heap.size) (hms : A.mi < w.heap.size ∧ A.ms < w.heap.size ∧ A.mr < w.heap.size ∧ A.mu < w.heap.size) {rb : Nat} {bar : Bool} {n : Int} (hb : w.heap[rb]? = some (.cells #[.bool bar, .int .i64 n] 29 (0, 0))) (hrb : ¬ L rb) (ga : Nat) (m : Int) :
    Both ⟨vk rb bar w.heap.size, w.heap.size + 1 + 1 + 1 + 1 + 1 + 1 + 1, w.heap.size + 1⟩ A L (newVW A.s rb ga bar m w) SG.empty VG.empty ∧ Fr L [29] [] w (newVW A.s rb ga bar m w) ∧ (newVW A.s rb ga bar m w).heap.size = w.heap.size + 8 := by
  have hsz : (newVW A.s rb ga bar m w).heap.size = w.heap.size + 8 := by unfold newVW newV1; simp
  have hf : Fr L [29] [] w (newVW A.s rb ga bar m w) := by
    unfold newVW newV1
    exact ((((((((Fr.refl L [29] [] w).setCell hb (by simp) hrb).alloc _).alloc _).alloc _).alloc _).alloc _).alloc _).alloc _ |>.alloc _
  have hv : (newVW A.s rb ga bar m w).heap[w.heap.size + 1 + 1 + 1 + 1 + 1 + 1 + 1]? = some (.cells (viewC (vk rb bar w.heap.size) A.s (.slice none 0 0) (.slice none 0 0) 0 (w.heap.size + 1) (.slice none 0 0) (.slice none 0 0)) 70 (0, 0)) := by
    unfold newVW
    have := heap_alloc_new ((((((newV1 rb ga m w).alloc (.map #[] 0)).alloc (.map #[] 0)).alloc (.map #[] 0)).alloc (.cells #[.pointer (some ⟨w.heap.size, 0, none⟩)] 59)).alloc (.cells #[.slice (some ⟨w.heap.size + 1 + 1 + 1 + 1 + 1, 0, none⟩) 1 1] 60)) (.cells (viewC (vk rb bar w.heap.size) A.s (.slice none 0 0) (.slice none 0 0) 0 (w.heap.size + 1) (.slice none 0 0) (.slice none 0 0)) 70)
    simpa [newV1] using this
  have hma : (newVW A.s rb ga bar m w).heap[w.heap.size + 1]? = some (Obj.map #[] 0) := by
    unfold newVW
    rw [Below.heap_alloc _ _ _ (by simp [newV1] <;> omega), Below.heap_alloc _ _ _ (by simp [newV1] <;> omega), Below.heap_alloc _ _ _ (by simp [newV1] <;> omega), Below.heap_alloc _ _ _ (by simp [newV1] <;> omega), Below.heap_alloc _ _ _ (by simp [newV1] <;> omega), Below.heap_alloc _ _ _ (by simp [newV1])]
    unfold newV1
    have := heap_alloc_new ((w.setCell ⟨rb, 1, none⟩ (.int .i64 m)).alloc (.cells #[.pointer (some ⟨ga, 0, none⟩), .int .u8 2, .bool true, .pointer none, .pointer none, .int .i64 0, .bool true, .map none, .nilIface, .bool false, .slice none 0 0] 94)) (.map #[] 0)
    simpa using this
  refine ⟨⟨hS.kept hf (by decide) (by simp), hA, fun k hk => by have := hL k hk; omega, ⟨fun k => k < w.heap.size + 8 ∧ k ≠ w.heap.size + 1 + 1 + 1 + 1 + 1 + 1 + 1 ∧ k ≠ w.heap.size + 1, fun k hk => by have := hL k hk; omega, fun k hk => by rw [hsz]; exact hk.1, ?_⟩, ?_⟩, hf, hsz⟩
  · refine ⟨hv, Row.nil _ _ 47 1, Row.nil _ _ 143 2, ⟨#[], 0, hma, rfl⟩, ⟨0, [], Row.nil _ _ 111 3⟩, by intro p hp; simp [VG.empty] at hp, .inl ⟨rfl, rfl⟩, ?_, ⟨by simp [VG.empty], by simp [VG.empty], by simp [VG.empty]⟩, by simp [VG.empty], by simp [VG.empty], by simp, by simp⟩
    intro k c f hk hb2 j u hj
    exfalso
    have hlt : k < w.heap.size + 8 := by rw [← hsz]; exact (Array.getElem?_eq_some_iff.1 hb2).1
    have : k = w.heap.size + 1 + 1 + 1 + 1 + 1 + 1 + 1 ∨ k = w.heap.size + 1 := by
      rcases Nat.lt_or_ge k (w.heap.size + 8) with h1 | h1
      · by_cases e1 : k = w.heap.size + 1 + 1 + 1 + 1 + 1 + 1 + 1
        · exact .inl e1
        · by_cases e2 : k = w.heap.size + 1
          · exact .inr e2
          · exact absurd ⟨hlt, e1, e2⟩ hk
      · omega
    rcases this with rfl | rfl
    · rw [hv] at hb2; cases hb2
    · rw [hma] at hb2; cases hb2
  · show w.heap.size + 1 ∉ [A.mi, A.ms, A.mr, A.mu]
    intro hh
    simp at hh
    omega

set_option maxHeartbeats 3200000 in
theorem newBoth_ok (ch : Int) (hch : 1 ≤ ch) (w : World) (L : Nat → Prop) (hL : ∀ k, L k → k < w.heap.size) {rb : Nat} {bar : Bool} {n : Int} (hb : w.heap[rb]? = some (.cells #[.bool bar, .int .i64 n] 29 (0, 0))) (hrb : ¬ L rb) :
    Calls Ybaf.prog 4 #[.int .i64 ch, .iface 27 (.pointer (some ⟨rb, 0, none⟩))] w fun e w' => ∃ (V : VA) (A : SA), A.ch = ch ∧ e = .returned (.tuple #[.pointer (some ⟨V.v, 0, none⟩), .nilIface]) ∧ Both V A L w' SG.empty VG.empty ∧ Fr L [29] [] w w' := by
  obtain ⟨hS, hA, hf, hsz⟩ := newS_ok ch w L hL
  have hb1 := hf.keepC _ _ _ _ hb (by simp)
  have hgp : (newSW ch w).cell? ⟨w.heap.size + 1 + 1 + 1 + 1 + 1, 4, none⟩ = some (.pointer (some ⟨w.heap.size + 1 + 1, 0, none⟩)) := by
    have h1 := hS.at_
    unfold StoreAt at h1
    simp only [SA.new] at h1
    simp only [World.cell?, h1]
    rfl
  have hnv := newView_ok (newSW ch w) (w.heap.size + 1 + 1 + 1 + 1 + 1) rb bar n (w.heap.size + 1 + 1) hgp hb1
  have hB := fun m => newV_ok hS hA (fun k hk => by have := hL k hk; omega) (by simp only [SA.new]; omega) hb1 hrb (w.heap.size + 1 + 1) m
  have HB : Hid (∀ m, _) := hB
  have HF : Hid (Fr L [] [] w (newSW ch w)) := hf
  clear hS hA hf hb1 hgp hB
  go_enter Ybaf.func4, Ybaf.ntmps4
  go_wp2_with fail
  refine (newStore_ok ch hch w).mono ?_
  rintro e w1 ⟨rfl, rfl⟩
  go_wp2_with fail
  refine hnv.mono ?_
  rintro e w2 ⟨rfl, m, rfl⟩
  clear hnv
  go_wp2_with fail
  refine bodyPost_ret (v := .tuple #[.pointer (some ⟨(newSW ch w).heap.size + 1 + 1 + 1 + 1 + 1 + 1 + 1, 0, none⟩), .nilIface]) (by simp [results]) rfl ?_
  exact ⟨⟨vk rb bar (newSW ch w).heap.size, (newSW ch w).heap.size + 1 + 1 + 1 + 1 + 1 + 1 + 1, (newSW ch w).heap.size + 1⟩, SA.new ch w.heap.size, rfl, rfl, (HB.out m).1, (HF.out.wider (by simp) (by simp)).trans (HB.out m).2.1⟩
end Go.Proofs.YbulkkeiFmt
