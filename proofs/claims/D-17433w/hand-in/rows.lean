section
-- ===== PART A: goes FIRST, ahead of the names: the tables' words, and 'selects' of the private methods out of them =====
/-- a private method of a class that the tables say can be made, by its rows of tables_1 -/
def lw_okq (q : MethodName × Nat) : Prop := (q.1.cls ≠ "java/lang/invoke/MethodHandle" ∧ q.1.cls ≠ "java/lang/invoke/VarHandle") ∧ Cond.instantiable q.1.cls q.2 ∈ tables_1 ∧ Cond.privateMethod q.1 ∈ tables_1 ∧ Cond.instanceMethod q.1 ∈ tables_1
def lw_privs : List (MethodName × Nat) := []
def lw_tbl : List Cond := k2_sels lw_privs ++ tables_1
theorem lw_privs_ok : ∀ q ∈ lw_privs, lw_okq q := fun _ h => absurd h List.not_mem_nil
-- ===== ONE list of words for every method: the tables' words that hold all through a run =====
def lw_all : List Cond := lw_tbl.filter goodWord
/-- a word of the tables by its place: claim/WORDS.tsv -/
theorem lw_w {w : Cond} (i : Nat) (h : lw_tbl[i]? = some w) (g : goodWord w = true) : w ∈ lw_all := List.mem_filter.mpr ⟨List.mem_of_getElem? h, g⟩
theorem lw_all_tbl {w : Cond} (h : w ∈ lw_all) : w ∈ lw_tbl := (List.mem_filter.mp h).1
theorem lw_self : GoodIn lw_all lw_all := fun w h => ⟨h, good_of_word (List.mem_filter.mp h).2⟩
/-- a class's field words, by their places -/
theorem lw_in (ws : List Cond) (ps : List Nat) (hp : ws = ps.filterMap (fun i => lw_tbl[i]?)) (hg : ws.all goodWord = true) : ∀ w ∈ ws, w ∈ lw_all := by
  intro w h
  have h1 := List.all_eq_true.mp hg w h
  rw [hp] at h
  obtain ⟨i, -, hi⟩ := List.mem_filterMap.mp h
  exact lw_w i hi h1
/-- the words of a contract for the method y with code b, L locals, answer r -/
abbrev ws_ (y : MethodName) (b : ByteArray) (L : Nat) (r : Option FieldType) : List Cond := Cond.code y b L r :: lw_all
theorem lw_meth {y : MethodName} {b : ByteArray} {L : Nat} {r : Option FieldType} (h : Cond.code y b L r ∈ lw_all) : GoodIn lw_all (ws_ y b L r) := by
  intro w hw
  rcases List.mem_cons.mp hw with e | e
  · rw [e]
    exact lw_self _ h
  · exact lw_self _ e
theorem lw_app {a c : List Cond} (ha : ∀ w ∈ a, w ∈ lw_all) (hc : GoodIn lw_all c) : GoodIn lw_all (a ++ c) := by
  intro w hw
  rcases List.mem_append.mp hw with e | e
  · exact lw_self w (ha w e)
  · exact hc w e
/-- what a call through an object asks: cwV n hts (lw_V ..) -/
theorem lw_V {own : String} {idx : Nat} {C : String} {y : MethodName} {b : ByteArray} {L : Nat} {r : Option FieldType} (h1 : Cond.methodLink own idx y ∈ lw_all) (h2 : Cond.instanceMethod y ∈ lw_all) (h3 : Cond.selects C y y ∈ lw_all) (h4 : Cond.initialized C ∈ lw_all) (h5 : Cond.code y b L r ∈ lw_all) : GoodIn lw_all (wsV own idx C y (ws_ y b L r)) := by
  refine lw_app ?_ (lw_meth h5)
  intro w hw
  simp only [List.mem_cons, List.not_mem_nil, or_false] at hw
  rcases hw with e | e | e | e
  · rw [e]; exact h1
  · rw [e]; exact h2
  · rw [e]; exact h3
  · rw [e]; exact h4
/-- what a static call asks: va_cwS n hts (lw_S ..) -/
theorem lw_S {own : String} {idx : Nat} {y : MethodName} {b : ByteArray} {L : Nat} {r : Option FieldType} (h1 : Cond.methodLink own idx y ∈ lw_all) (h2 : Cond.static y ∈ lw_all) (h3 : Cond.initialized y.cls ∈ lw_all) (h4 : Cond.code y b L r ∈ lw_all) : GoodIn lw_all (va_wsS own idx y (ws_ y b L r)) := by
  refine lw_app ?_ (lw_meth h4)
  intro w hw
  simp only [List.mem_cons, List.not_mem_nil, or_false] at hw
  rcases hw with e | e | e
  · rw [e]; exact h1
  · rw [e]; exact h2
  · rw [e]; exact h3
/-- the words of a contract for a method WITH HANDLERS (hh: its table) -/
abbrev wsW_ (y : MethodName) (b : ByteArray) (L : Nat) (r : Option FieldType) (hh : List (Nat × Nat × Nat × Nat)) : List Cond := Cond.codeWith y b L r hh :: lw_all
theorem lw_methW {y : MethodName} {b : ByteArray} {L : Nat} {r : Option FieldType} {hh : List (Nat × Nat × Nat × Nat)} (h : Cond.codeWith y b L r hh ∈ lw_all) : GoodIn lw_all (wsW_ y b L r hh) := by
  intro w hw
  rcases List.mem_cons.mp hw with e | e
  · rw [e]
    exact lw_self _ h
  · exact lw_self _ e
/-- any list of words by their places (lw_in), good -/
theorem lw_good {ws : List Cond} (h : ∀ w ∈ ws, w ∈ lw_all) : GoodIn lw_all ws := fun w hw => lw_self w (h w hw)
/-- what a call of a method with handlers asks: vx_cwVW n hts (lw_VW ..), vx_cwSW n hts (lw_SW ..) -/
theorem lw_VW {own : String} {idx : Nat} {C : String} {y : MethodName} {b : ByteArray} {L : Nat} {r : Option FieldType} {hh : List (Nat × Nat × Nat × Nat)} (h1 : Cond.methodLink own idx y ∈ lw_all) (h2 : Cond.instanceMethod y ∈ lw_all) (h3 : Cond.selects C y y ∈ lw_all) (h4 : Cond.initialized C ∈ lw_all) (h5 : Cond.codeWith y b L r hh ∈ lw_all) : GoodIn lw_all (wsV own idx C y (wsW_ y b L r hh)) := by
  refine lw_app ?_ (lw_methW h5)
  intro w hw
  simp only [List.mem_cons, List.not_mem_nil, or_false] at hw
  rcases hw with e | e | e | e
  · rw [e]; exact h1
  · rw [e]; exact h2
  · rw [e]; exact h3
  · rw [e]; exact h4
theorem lw_SW {own : String} {idx : Nat} {y : MethodName} {b : ByteArray} {L : Nat} {r : Option FieldType} {hh : List (Nat × Nat × Nat × Nat)} (h1 : Cond.methodLink own idx y ∈ lw_all) (h2 : Cond.static y ∈ lw_all) (h3 : Cond.initialized y.cls ∈ lw_all) (h4 : Cond.codeWith y b L r hh ∈ lw_all) : GoodIn lw_all (va_wsS own idx y (wsW_ y b L r hh)) := by
  refine lw_app ?_ (lw_methW h4)
  intro w hw
  simp only [List.mem_cons, List.not_mem_nil, or_false] at hw
  rcases hw with e | e | e
  · rw [e]; exact h1
  · rw [e]; exact h2
  · rw [e]; exact h3
/-- a word by its place in its run of the tables -/
theorem lw_at {r : List Cond} (hr : ∀ w ∈ r, w ∈ lw_tbl) {w : Cond} (i : Nat) (h : r[i]? = some w) : w ∈ lw_tbl := hr w (List.mem_of_getElem? h)
theorem lw_g {w : Cond} (h : w ∈ lw_tbl) (g : goodWord w = true) : w ∈ lw_all := List.mem_filter.mpr ⟨h, g⟩
theorem lw_ms : ∀ w ∈ k2_sels lw_privs, w ∈ lw_tbl := fun w h => show w ∈ k2_sels lw_privs ++ tables_1 from List.mem_append_left _ h
theorem lw_m0 : ∀ w ∈ tables_1, w ∈ lw_tbl := fun w h => show w ∈ k2_sels lw_privs ++ tables_1 from List.mem_append_right (k2_sels lw_privs) h
end
section
/-! DECODE ROWS BY BYTES: one lemma an opcode; a method's code is cut into short pieces once, and a row reads its own piece alone. -/
set_option maxRecDepth 100000
/-- the code has just these bytes from pc on -/
def DkAt (code : ByteArray) (pc : Nat) (bs : List UInt8) : Prop := ∀ (j : Nat) (b : UInt8), bs[j]? = some b → code.data.toList[pc + j]? = some b
/-- the piece W has the bytes bs from its place j on -/
def dkIn (W : List UInt8) (j : Nat) (bs : List UInt8) : Bool := decide ((W.drop j).take bs.length = bs)
theorem dk_seg {l W T : List UInt8} {o o2 : Nat} (h : l.drop o = W ++ T) (n : Nat) (hn : W.length = n) (ho : o + n = o2) : l.drop o2 = T := by
  subst ho
  rw [← List.drop_drop, h, List.drop_left' hn]
theorem dk_at {code : ByteArray} {W T bs : List UInt8} {o pc : Nat} (h : code.data.toList.drop o = W ++ T) (j : Nat) (hp : o + j = pc) (hw : dkIn W j bs = true) : DkAt code pc bs := by
  subst hp
  intro i b e
  have h1 := of_decide_eq_true hw
  have h2 : i < bs.length := (List.getElem?_eq_some_iff.mp e).1
  have h3 : W[j + i]? = some b := by
    rw [← h1, List.getElem?_take, if_pos h2, List.getElem?_drop] at e
    exact e
  have h4 : j + i < W.length := (List.getElem?_eq_some_iff.mp h3).1
  have h5 : (code.data.toList.drop o)[j + i]? = some b := by
    rw [h, List.getElem?_append_left h4]
    exact h3
  rw [List.getElem?_drop, ← Nat.add_assoc] at h5
  exact h5
theorem dk_u1 {A : ByteArray} {p : Nat} {b : UInt8} (h : A.data.toList[p]? = some b) : (Reader.u1 : Reader DecodeError Nat) A p = .ok (b.toNat, p + 1) := by
  obtain ⟨h1, h2⟩ := List.getElem?_eq_some_iff.mp h
  have h3 : p < A.size := by simpa using h1
  have h4 : A[p]'h3 = b := h2
  have e : (Reader.u1 : Reader DecodeError Nat) A p = (if h : p < A.size then .ok (A[p].toNat, p + 1) else .error (HasTruncated.truncated p)) := by
    show (do if h : p < A.size then do set (p + 1); Pure.pure A[p].toNat else MonadExcept.throw (HasTruncated.truncated p) : Reader DecodeError Nat) A p = _
    by_cases hi : p < A.size
    · rw [dif_pos hi, dif_pos hi]; rfl
    · rw [dif_neg hi, dif_neg hi]; rfl
  rw [e, dif_pos h3, h4]
theorem dk_bind {α β : Type} {r : Reader DecodeError α} {f : α → Reader DecodeError β} {A : ByteArray} {p s : Nat} {a : α} (h : r A p = .ok (a, s)) : (r >>= f) A p = f a A s := by
  show (do let (a, s) ← r A p; f a A s : Except DecodeError (β × Nat)) = _
  rw [h]
  rfl
theorem dk_map {α β : Type} {r : Reader DecodeError α} {g : α → β} {A : ByteArray} {p s : Nat} {a : α} (h : r A p = .ok (a, s)) : (g <$> r) A p = .ok (g a, s) := by
  show (do let (a, s) ← r A p; .ok (g a, s) : Except DecodeError (β × Nat)) = _
  rw [h]
  rfl
theorem dk_u2 {A : ByteArray} {p : Nat} {a b : UInt8} (h : A.data.toList[p]? = some a) (h2 : A.data.toList[p + 1]? = some b) : (Reader.u2 : Reader DecodeError Nat) A p = .ok (a.toNat * 256 + b.toNat, p + 2) := by
  show (Reader.u1 >>= fun hi => Reader.u1 >>= fun lo => Pure.pure (hi * 256 + lo) : Reader DecodeError Nat) A p = _
  rw [dk_bind (dk_u1 h), dk_bind (dk_u1 h2)]
  rfl
theorem dk_of {code : ByteArray} {pc n : Nat} {i : Instr} (h : Decoder.instr pc code pc = .ok (i, pc + n)) : decode code pc = .ok (i, n) := by
  have e : decode code pc = (match Decoder.instr pc code pc with | .error x => .error x | .ok (j, s) => .ok (j, s - pc)) := by
    show (do let (j, s) ← Decoder.instr pc code pc; Pure.pure (j, s - pc) : Except DecodeError (Instr × Nat)) = _
    cases Decoder.instr pc code pc <;> rfl
  rw [e, h]
  show Except.ok (i, pc + n - pc) = _
  rw [Nat.add_sub_cancel_left]
theorem dk_3 {code : ByteArray} {pc : Nat} (h : DkAt code pc [3]) : decode code pc = .ok (.iconst 0, 1) := dk_of ((dk_bind (dk_u1 (h 0 _ rfl))).trans rfl)
theorem dk_4 {code : ByteArray} {pc : Nat} (h : DkAt code pc [4]) : decode code pc = .ok (.iconst 1, 1) := dk_of ((dk_bind (dk_u1 (h 0 _ rfl))).trans rfl)
theorem dk_5 {code : ByteArray} {pc : Nat} (h : DkAt code pc [5]) : decode code pc = .ok (.iconst 2, 1) := dk_of ((dk_bind (dk_u1 (h 0 _ rfl))).trans rfl)
theorem dk_7 {code : ByteArray} {pc : Nat} (h : DkAt code pc [7]) : decode code pc = .ok (.iconst 4, 1) := dk_of ((dk_bind (dk_u1 (h 0 _ rfl))).trans rfl)
theorem dk_10 {code : ByteArray} {pc : Nat} (h : DkAt code pc [10]) : decode code pc = .ok (.lconst 1, 1) := dk_of ((dk_bind (dk_u1 (h 0 _ rfl))).trans rfl)
theorem dk_16 {code : ByteArray} {pc : Nat} (a : UInt8) (h : DkAt code pc [16, a]) : decode code pc = .ok (.bipush (Reader.signed 8 a.toNat), 2) := dk_of ((dk_bind (dk_u1 (h 0 _ rfl))).trans ((dk_bind (dk_map (dk_u1 (h 1 _ rfl)))).trans rfl))
theorem dk_17 {code : ByteArray} {pc : Nat} (a b : UInt8) (h : DkAt code pc [17, a, b]) : decode code pc = .ok (.sipush (Reader.signed 16 (a.toNat * 256 + b.toNat)), 3) := dk_of ((dk_bind (dk_u1 (h 0 _ rfl))).trans ((dk_bind (dk_map (dk_u2 (h 1 _ rfl) (h 2 _ rfl)))).trans rfl))
theorem dk_18 {code : ByteArray} {pc : Nat} (a : UInt8) (h : DkAt code pc [18, a]) : decode code pc = .ok (.ldc a.toNat, 2) := dk_of ((dk_bind (dk_u1 (h 0 _ rfl))).trans ((dk_bind (dk_u1 (h 1 _ rfl))).trans rfl))
theorem dk_19 {code : ByteArray} {pc : Nat} (a b : UInt8) (h : DkAt code pc [19, a, b]) : decode code pc = .ok (.ldc_w (a.toNat * 256 + b.toNat), 3) := dk_of ((dk_bind (dk_u1 (h 0 _ rfl))).trans ((dk_bind (dk_u2 (h 1 _ rfl) (h 2 _ rfl))).trans rfl))
theorem dk_20 {code : ByteArray} {pc : Nat} (a b : UInt8) (h : DkAt code pc [20, a, b]) : decode code pc = .ok (.ldc2_w (a.toNat * 256 + b.toNat), 3) := dk_of ((dk_bind (dk_u1 (h 0 _ rfl))).trans ((dk_bind (dk_u2 (h 1 _ rfl) (h 2 _ rfl))).trans rfl))
theorem dk_21 {code : ByteArray} {pc : Nat} (a : UInt8) (h : DkAt code pc [21, a]) : decode code pc = .ok (.iload a.toNat, 2) := dk_of ((dk_bind (dk_u1 (h 0 _ rfl))).trans ((dk_bind (dk_u1 (h 1 _ rfl))).trans rfl))
theorem dk_22 {code : ByteArray} {pc : Nat} (a : UInt8) (h : DkAt code pc [22, a]) : decode code pc = .ok (.lload a.toNat, 2) := dk_of ((dk_bind (dk_u1 (h 0 _ rfl))).trans ((dk_bind (dk_u1 (h 1 _ rfl))).trans rfl))
theorem dk_26 {code : ByteArray} {pc : Nat} (h : DkAt code pc [26]) : decode code pc = .ok (.iload_n 0, 1) := dk_of ((dk_bind (dk_u1 (h 0 _ rfl))).trans rfl)
theorem dk_27 {code : ByteArray} {pc : Nat} (h : DkAt code pc [27]) : decode code pc = .ok (.iload_n 1, 1) := dk_of ((dk_bind (dk_u1 (h 0 _ rfl))).trans rfl)
theorem dk_28 {code : ByteArray} {pc : Nat} (h : DkAt code pc [28]) : decode code pc = .ok (.iload_n 2, 1) := dk_of ((dk_bind (dk_u1 (h 0 _ rfl))).trans rfl)
theorem dk_29 {code : ByteArray} {pc : Nat} (h : DkAt code pc [29]) : decode code pc = .ok (.iload_n 3, 1) := dk_of ((dk_bind (dk_u1 (h 0 _ rfl))).trans rfl)
theorem dk_30 {code : ByteArray} {pc : Nat} (h : DkAt code pc [30]) : decode code pc = .ok (.lload_n 0, 1) := dk_of ((dk_bind (dk_u1 (h 0 _ rfl))).trans rfl)
theorem dk_32 {code : ByteArray} {pc : Nat} (h : DkAt code pc [32]) : decode code pc = .ok (.lload_n 2, 1) := dk_of ((dk_bind (dk_u1 (h 0 _ rfl))).trans rfl)
theorem dk_33 {code : ByteArray} {pc : Nat} (h : DkAt code pc [33]) : decode code pc = .ok (.lload_n 3, 1) := dk_of ((dk_bind (dk_u1 (h 0 _ rfl))).trans rfl)
theorem dk_42 {code : ByteArray} {pc : Nat} (h : DkAt code pc [42]) : decode code pc = .ok (.aload_n 0, 1) := dk_of ((dk_bind (dk_u1 (h 0 _ rfl))).trans rfl)
theorem dk_43 {code : ByteArray} {pc : Nat} (h : DkAt code pc [43]) : decode code pc = .ok (.aload_n 1, 1) := dk_of ((dk_bind (dk_u1 (h 0 _ rfl))).trans rfl)
theorem dk_44 {code : ByteArray} {pc : Nat} (h : DkAt code pc [44]) : decode code pc = .ok (.aload_n 2, 1) := dk_of ((dk_bind (dk_u1 (h 0 _ rfl))).trans rfl)
theorem dk_46 {code : ByteArray} {pc : Nat} (h : DkAt code pc [46]) : decode code pc = .ok (.iaload, 1) := dk_of ((dk_bind (dk_u1 (h 0 _ rfl))).trans rfl)
theorem dk_54 {code : ByteArray} {pc : Nat} (a : UInt8) (h : DkAt code pc [54, a]) : decode code pc = .ok (.istore a.toNat, 2) := dk_of ((dk_bind (dk_u1 (h 0 _ rfl))).trans ((dk_bind (dk_u1 (h 1 _ rfl))).trans rfl))
theorem dk_55 {code : ByteArray} {pc : Nat} (a : UInt8) (h : DkAt code pc [55, a]) : decode code pc = .ok (.lstore a.toNat, 2) := dk_of ((dk_bind (dk_u1 (h 0 _ rfl))).trans ((dk_bind (dk_u1 (h 1 _ rfl))).trans rfl))
theorem dk_59 {code : ByteArray} {pc : Nat} (h : DkAt code pc [59]) : decode code pc = .ok (.istore_n 0, 1) := dk_of ((dk_bind (dk_u1 (h 0 _ rfl))).trans rfl)
theorem dk_60 {code : ByteArray} {pc : Nat} (h : DkAt code pc [60]) : decode code pc = .ok (.istore_n 1, 1) := dk_of ((dk_bind (dk_u1 (h 0 _ rfl))).trans rfl)
theorem dk_61 {code : ByteArray} {pc : Nat} (h : DkAt code pc [61]) : decode code pc = .ok (.istore_n 2, 1) := dk_of ((dk_bind (dk_u1 (h 0 _ rfl))).trans rfl)
theorem dk_62 {code : ByteArray} {pc : Nat} (h : DkAt code pc [62]) : decode code pc = .ok (.istore_n 3, 1) := dk_of ((dk_bind (dk_u1 (h 0 _ rfl))).trans rfl)
theorem dk_63 {code : ByteArray} {pc : Nat} (h : DkAt code pc [63]) : decode code pc = .ok (.lstore_n 0, 1) := dk_of ((dk_bind (dk_u1 (h 0 _ rfl))).trans rfl)
theorem dk_65 {code : ByteArray} {pc : Nat} (h : DkAt code pc [65]) : decode code pc = .ok (.lstore_n 2, 1) := dk_of ((dk_bind (dk_u1 (h 0 _ rfl))).trans rfl)
theorem dk_66 {code : ByteArray} {pc : Nat} (h : DkAt code pc [66]) : decode code pc = .ok (.lstore_n 3, 1) := dk_of ((dk_bind (dk_u1 (h 0 _ rfl))).trans rfl)
theorem dk_76 {code : ByteArray} {pc : Nat} (h : DkAt code pc [76]) : decode code pc = .ok (.astore_n 1, 1) := dk_of ((dk_bind (dk_u1 (h 0 _ rfl))).trans rfl)
theorem dk_77 {code : ByteArray} {pc : Nat} (h : DkAt code pc [77]) : decode code pc = .ok (.astore_n 2, 1) := dk_of ((dk_bind (dk_u1 (h 0 _ rfl))).trans rfl)
theorem dk_89 {code : ByteArray} {pc : Nat} (h : DkAt code pc [89]) : decode code pc = .ok (.dup, 1) := dk_of ((dk_bind (dk_u1 (h 0 _ rfl))).trans rfl)
theorem dk_96 {code : ByteArray} {pc : Nat} (h : DkAt code pc [96]) : decode code pc = .ok (.iadd, 1) := dk_of ((dk_bind (dk_u1 (h 0 _ rfl))).trans rfl)
theorem dk_97 {code : ByteArray} {pc : Nat} (h : DkAt code pc [97]) : decode code pc = .ok (.ladd, 1) := dk_of ((dk_bind (dk_u1 (h 0 _ rfl))).trans rfl)
theorem dk_100 {code : ByteArray} {pc : Nat} (h : DkAt code pc [100]) : decode code pc = .ok (.isub, 1) := dk_of ((dk_bind (dk_u1 (h 0 _ rfl))).trans rfl)
theorem dk_101 {code : ByteArray} {pc : Nat} (h : DkAt code pc [101]) : decode code pc = .ok (.lsub, 1) := dk_of ((dk_bind (dk_u1 (h 0 _ rfl))).trans rfl)
theorem dk_104 {code : ByteArray} {pc : Nat} (h : DkAt code pc [104]) : decode code pc = .ok (.imul, 1) := dk_of ((dk_bind (dk_u1 (h 0 _ rfl))).trans rfl)
theorem dk_105 {code : ByteArray} {pc : Nat} (h : DkAt code pc [105]) : decode code pc = .ok (.lmul, 1) := dk_of ((dk_bind (dk_u1 (h 0 _ rfl))).trans rfl)
theorem dk_120 {code : ByteArray} {pc : Nat} (h : DkAt code pc [120]) : decode code pc = .ok (.ishl, 1) := dk_of ((dk_bind (dk_u1 (h 0 _ rfl))).trans rfl)
theorem dk_121 {code : ByteArray} {pc : Nat} (h : DkAt code pc [121]) : decode code pc = .ok (.lshl, 1) := dk_of ((dk_bind (dk_u1 (h 0 _ rfl))).trans rfl)
theorem dk_124 {code : ByteArray} {pc : Nat} (h : DkAt code pc [124]) : decode code pc = .ok (.iushr, 1) := dk_of ((dk_bind (dk_u1 (h 0 _ rfl))).trans rfl)
theorem dk_125 {code : ByteArray} {pc : Nat} (h : DkAt code pc [125]) : decode code pc = .ok (.lushr, 1) := dk_of ((dk_bind (dk_u1 (h 0 _ rfl))).trans rfl)
theorem dk_126 {code : ByteArray} {pc : Nat} (h : DkAt code pc [126]) : decode code pc = .ok (.iand, 1) := dk_of ((dk_bind (dk_u1 (h 0 _ rfl))).trans rfl)
theorem dk_127 {code : ByteArray} {pc : Nat} (h : DkAt code pc [127]) : decode code pc = .ok (.land, 1) := dk_of ((dk_bind (dk_u1 (h 0 _ rfl))).trans rfl)
theorem dk_129 {code : ByteArray} {pc : Nat} (h : DkAt code pc [129]) : decode code pc = .ok (.lor, 1) := dk_of ((dk_bind (dk_u1 (h 0 _ rfl))).trans rfl)
theorem dk_130 {code : ByteArray} {pc : Nat} (h : DkAt code pc [130]) : decode code pc = .ok (.ixor, 1) := dk_of ((dk_bind (dk_u1 (h 0 _ rfl))).trans rfl)
theorem dk_131 {code : ByteArray} {pc : Nat} (h : DkAt code pc [131]) : decode code pc = .ok (.lxor, 1) := dk_of ((dk_bind (dk_u1 (h 0 _ rfl))).trans rfl)
theorem dk_132 {code : ByteArray} {pc : Nat} (a b : UInt8) (h : DkAt code pc [132, a, b]) : decode code pc = .ok (.iinc a.toNat (Reader.signed 8 b.toNat), 3) := dk_of ((dk_bind (dk_u1 (h 0 _ rfl))).trans ((dk_bind (dk_u1 (h 1 _ rfl))).trans ((dk_bind (dk_map (dk_u1 (h 2 _ rfl)))).trans rfl)))
theorem dk_133 {code : ByteArray} {pc : Nat} (h : DkAt code pc [133]) : decode code pc = .ok (.i2l, 1) := dk_of ((dk_bind (dk_u1 (h 0 _ rfl))).trans rfl)
theorem dk_136 {code : ByteArray} {pc : Nat} (h : DkAt code pc [136]) : decode code pc = .ok (.l2i, 1) := dk_of ((dk_bind (dk_u1 (h 0 _ rfl))).trans rfl)
theorem dk_148 {code : ByteArray} {pc : Nat} (h : DkAt code pc [148]) : decode code pc = .ok (.lcmp, 1) := dk_of ((dk_bind (dk_u1 (h 0 _ rfl))).trans rfl)
theorem dk_153 {code : ByteArray} {pc : Nat} (a b : UInt8) (h : DkAt code pc [153, a, b]) : decode code pc = .ok (.ifCond .eq (Reader.signed 16 (a.toNat * 256 + b.toNat)), 3) := dk_of ((dk_bind (dk_u1 (h 0 _ rfl))).trans ((dk_bind (dk_map (dk_u2 (h 1 _ rfl) (h 2 _ rfl)))).trans rfl))
theorem dk_154 {code : ByteArray} {pc : Nat} (a b : UInt8) (h : DkAt code pc [154, a, b]) : decode code pc = .ok (.ifCond .ne (Reader.signed 16 (a.toNat * 256 + b.toNat)), 3) := dk_of ((dk_bind (dk_u1 (h 0 _ rfl))).trans ((dk_bind (dk_map (dk_u2 (h 1 _ rfl) (h 2 _ rfl)))).trans rfl))
theorem dk_156 {code : ByteArray} {pc : Nat} (a b : UInt8) (h : DkAt code pc [156, a, b]) : decode code pc = .ok (.ifCond .ge (Reader.signed 16 (a.toNat * 256 + b.toNat)), 3) := dk_of ((dk_bind (dk_u1 (h 0 _ rfl))).trans ((dk_bind (dk_map (dk_u2 (h 1 _ rfl) (h 2 _ rfl)))).trans rfl))
theorem dk_157 {code : ByteArray} {pc : Nat} (a b : UInt8) (h : DkAt code pc [157, a, b]) : decode code pc = .ok (.ifCond .gt (Reader.signed 16 (a.toNat * 256 + b.toNat)), 3) := dk_of ((dk_bind (dk_u1 (h 0 _ rfl))).trans ((dk_bind (dk_map (dk_u2 (h 1 _ rfl) (h 2 _ rfl)))).trans rfl))
theorem dk_159 {code : ByteArray} {pc : Nat} (a b : UInt8) (h : DkAt code pc [159, a, b]) : decode code pc = .ok (.if_icmp .eq (Reader.signed 16 (a.toNat * 256 + b.toNat)), 3) := dk_of ((dk_bind (dk_u1 (h 0 _ rfl))).trans ((dk_bind (dk_map (dk_u2 (h 1 _ rfl) (h 2 _ rfl)))).trans rfl))
theorem dk_161 {code : ByteArray} {pc : Nat} (a b : UInt8) (h : DkAt code pc [161, a, b]) : decode code pc = .ok (.if_icmp .lt (Reader.signed 16 (a.toNat * 256 + b.toNat)), 3) := dk_of ((dk_bind (dk_u1 (h 0 _ rfl))).trans ((dk_bind (dk_map (dk_u2 (h 1 _ rfl) (h 2 _ rfl)))).trans rfl))
theorem dk_162 {code : ByteArray} {pc : Nat} (a b : UInt8) (h : DkAt code pc [162, a, b]) : decode code pc = .ok (.if_icmp .ge (Reader.signed 16 (a.toNat * 256 + b.toNat)), 3) := dk_of ((dk_bind (dk_u1 (h 0 _ rfl))).trans ((dk_bind (dk_map (dk_u2 (h 1 _ rfl) (h 2 _ rfl)))).trans rfl))
theorem dk_163 {code : ByteArray} {pc : Nat} (a b : UInt8) (h : DkAt code pc [163, a, b]) : decode code pc = .ok (.if_icmp .gt (Reader.signed 16 (a.toNat * 256 + b.toNat)), 3) := dk_of ((dk_bind (dk_u1 (h 0 _ rfl))).trans ((dk_bind (dk_map (dk_u2 (h 1 _ rfl) (h 2 _ rfl)))).trans rfl))
theorem dk_167 {code : ByteArray} {pc : Nat} (a b : UInt8) (h : DkAt code pc [167, a, b]) : decode code pc = .ok (.goto (Reader.signed 16 (a.toNat * 256 + b.toNat)), 3) := dk_of ((dk_bind (dk_u1 (h 0 _ rfl))).trans ((dk_bind (dk_map (dk_u2 (h 1 _ rfl) (h 2 _ rfl)))).trans rfl))
theorem dk_172 {code : ByteArray} {pc : Nat} (h : DkAt code pc [172]) : decode code pc = .ok (.ireturn, 1) := dk_of ((dk_bind (dk_u1 (h 0 _ rfl))).trans rfl)
theorem dk_173 {code : ByteArray} {pc : Nat} (h : DkAt code pc [173]) : decode code pc = .ok (.lreturn, 1) := dk_of ((dk_bind (dk_u1 (h 0 _ rfl))).trans rfl)
theorem dk_182 {code : ByteArray} {pc : Nat} (a b : UInt8) (h : DkAt code pc [182, a, b]) : decode code pc = .ok (.invokevirtual (a.toNat * 256 + b.toNat), 3) := dk_of ((dk_bind (dk_u1 (h 0 _ rfl))).trans ((dk_bind (dk_u2 (h 1 _ rfl) (h 2 _ rfl))).trans rfl))
theorem dk_183 {code : ByteArray} {pc : Nat} (a b : UInt8) (h : DkAt code pc [183, a, b]) : decode code pc = .ok (.invokespecial (a.toNat * 256 + b.toNat), 3) := dk_of ((dk_bind (dk_u1 (h 0 _ rfl))).trans ((dk_bind (dk_u2 (h 1 _ rfl) (h 2 _ rfl))).trans rfl))
theorem dk_184 {code : ByteArray} {pc : Nat} (a b : UInt8) (h : DkAt code pc [184, a, b]) : decode code pc = .ok (.invokestatic (a.toNat * 256 + b.toNat), 3) := dk_of ((dk_bind (dk_u1 (h 0 _ rfl))).trans ((dk_bind (dk_u2 (h 1 _ rfl) (h 2 _ rfl))).trans rfl))
theorem dk_187 {code : ByteArray} {pc : Nat} (a b : UInt8) (h : DkAt code pc [187, a, b]) : decode code pc = .ok (.new (a.toNat * 256 + b.toNat), 3) := dk_of ((dk_bind (dk_u1 (h 0 _ rfl))).trans ((dk_bind (dk_u2 (h 1 _ rfl) (h 2 _ rfl))).trans rfl))
theorem dk_190 {code : ByteArray} {pc : Nat} (h : DkAt code pc [190]) : decode code pc = .ok (.arraylength, 1) := dk_of ((dk_bind (dk_u1 (h 0 _ rfl))).trans rfl)
end
section
/-! MixDesk -/
set_option maxRecDepth 100000
def RX0 : String := "MixDesk"
abbrev cX0_init : ByteArray := prog_2_method_1_code
def yX0_init : MethodName := ⟨RX0, "<init>", "()V"⟩
theorem dX0_init_0 : decode cX0_init 0 = .ok (.aload_n 0, 1) := by decide +kernel
theorem dX0_init_1 : decode cX0_init 1 = .ok (.invokespecial 1, 3) := by decide +kernel
theorem dX0_init_4 : decode cX0_init 4 = .ok (.return_, 1) := by decide +kernel
abbrev cX0_mix : ByteArray := prog_2_method_3_code
def yX0_mix : MethodName := ⟨RX0, "mix", "(I)I"⟩
theorem dX0_mix_0 : decode cX0_mix 0 = .ok (.iload_n 1, 1) := by decide +kernel
theorem dX0_mix_1 : decode cX0_mix 1 = .ok (.invokestatic 9, 3) := by decide +kernel
theorem dX0_mix_4 : decode cX0_mix 4 = .ok (.ireturn, 1) := by decide +kernel
abbrev cX0_back : ByteArray := prog_2_method_4_code
def yX0_back : MethodName := ⟨RX0, "back", "(I)I"⟩
theorem dX0_back_0 : decode cX0_back 0 = .ok (.iload_n 1, 1) := by decide +kernel
theorem dX0_back_1 : decode cX0_back 1 = .ok (.invokestatic 15, 3) := by decide +kernel
theorem dX0_back_4 : decode cX0_back 4 = .ok (.ireturn, 1) := by decide +kernel
abbrev cX0_longMix : ByteArray := prog_2_method_5_code
def yX0_longMix : MethodName := ⟨RX0, "longMix", "(II)J"⟩
def dkwX0_longMix_0 : List UInt8 := [27, 28, 184, 0, 18, 184, 0, 24, 173]
abbrev dktX0_longMix_0 : List UInt8 := dkwX0_longMix_0 ++ []
theorem dksX0_longMix_0 : cX0_longMix.data.toList.drop 0 = dktX0_longMix_0 := by decide +kernel
theorem dX0_longMix_0 : decode cX0_longMix 0 = .ok (.iload_n 1, 1) := dk_27 (dk_at dksX0_longMix_0 0 rfl rfl)
theorem dX0_longMix_1 : decode cX0_longMix 1 = .ok (.iload_n 2, 1) := dk_28 (dk_at dksX0_longMix_0 1 rfl rfl)
theorem dX0_longMix_2 : decode cX0_longMix 2 = .ok (.invokestatic 18, 3) := dk_184 0 18 (dk_at dksX0_longMix_0 2 rfl rfl)
theorem dX0_longMix_5 : decode cX0_longMix 5 = .ok (.invokestatic 24, 3) := dk_184 0 24 (dk_at dksX0_longMix_0 5 rfl rfl)
theorem dX0_longMix_8 : decode cX0_longMix 8 = .ok (.lreturn, 1) := dk_173 (dk_at dksX0_longMix_0 8 rfl rfl)
abbrev cX0_wide : ByteArray := prog_2_method_2_code
def yX0_wide : MethodName := ⟨RX0, "wide", "(II)J"⟩
def dkwX0_wide_0 : List UInt8 := [26, 133, 16, 32, 121, 27, 133, 20, 0, 7, 127, 129, 173]
abbrev dktX0_wide_0 : List UInt8 := dkwX0_wide_0 ++ []
theorem dksX0_wide_0 : cX0_wide.data.toList.drop 0 = dktX0_wide_0 := by decide +kernel
theorem dX0_wide_0 : decode cX0_wide 0 = .ok (.iload_n 0, 1) := dk_26 (dk_at dksX0_wide_0 0 rfl rfl)
theorem dX0_wide_1 : decode cX0_wide 1 = .ok (.i2l, 1) := dk_133 (dk_at dksX0_wide_0 1 rfl rfl)
theorem dX0_wide_2 : decode cX0_wide 2 = .ok (.bipush 32, 2) := dk_16 32 (dk_at dksX0_wide_0 2 rfl rfl)
theorem dX0_wide_4 : decode cX0_wide 4 = .ok (.lshl, 1) := dk_121 (dk_at dksX0_wide_0 4 rfl rfl)
theorem dX0_wide_5 : decode cX0_wide 5 = .ok (.iload_n 1, 1) := dk_27 (dk_at dksX0_wide_0 5 rfl rfl)
theorem dX0_wide_6 : decode cX0_wide 6 = .ok (.i2l, 1) := dk_133 (dk_at dksX0_wide_0 6 rfl rfl)
theorem dX0_wide_7 : decode cX0_wide 7 = .ok (.ldc2_w 7, 3) := dk_20 0 7 (dk_at dksX0_wide_0 7 rfl rfl)
theorem dX0_wide_10 : decode cX0_wide 10 = .ok (.land, 1) := dk_127 (dk_at dksX0_wide_0 10 rfl rfl)
theorem dX0_wide_11 : decode cX0_wide 11 = .ok (.lor, 1) := dk_129 (dk_at dksX0_wide_0 11 rfl rfl)
theorem dX0_wide_12 : decode cX0_wide 12 = .ok (.lreturn, 1) := dk_173 (dk_at dksX0_wide_0 12 rfl rfl)
abbrev cX0_longBack : ByteArray := prog_2_method_6_code
def yX0_longBack : MethodName := ⟨RX0, "longBack", "(II)J"⟩
def dkwX0_longBack_0 : List UInt8 := [27, 28, 184, 0, 18, 184, 0, 27, 173]
abbrev dktX0_longBack_0 : List UInt8 := dkwX0_longBack_0 ++ []
theorem dksX0_longBack_0 : cX0_longBack.data.toList.drop 0 = dktX0_longBack_0 := by decide +kernel
theorem dX0_longBack_0 : decode cX0_longBack 0 = .ok (.iload_n 1, 1) := dk_27 (dk_at dksX0_longBack_0 0 rfl rfl)
theorem dX0_longBack_1 : decode cX0_longBack 1 = .ok (.iload_n 2, 1) := dk_28 (dk_at dksX0_longBack_0 1 rfl rfl)
theorem dX0_longBack_2 : decode cX0_longBack 2 = .ok (.invokestatic 18, 3) := dk_184 0 18 (dk_at dksX0_longBack_0 2 rfl rfl)
theorem dX0_longBack_5 : decode cX0_longBack 5 = .ok (.invokestatic 27, 3) := dk_184 0 27 (dk_at dksX0_longBack_0 5 rfl rfl)
theorem dX0_longBack_8 : decode cX0_longBack 8 = .ok (.lreturn, 1) := dk_173 (dk_at dksX0_longBack_0 8 rfl rfl)
abbrev cX0_murmur : ByteArray := prog_2_method_7_code
def yX0_murmur : MethodName := ⟨RX0, "murmur", "(I)I"⟩
theorem dX0_murmur_0 : decode cX0_murmur 0 = .ok (.iload_n 1, 1) := by decide +kernel
theorem dX0_murmur_1 : decode cX0_murmur 1 = .ok (.invokestatic 29, 3) := by decide +kernel
theorem dX0_murmur_4 : decode cX0_murmur 4 = .ok (.ireturn, 1) := by decide +kernel
abbrev cX0_longMurmur : ByteArray := prog_2_method_8_code
def yX0_longMurmur : MethodName := ⟨RX0, "longMurmur", "(II)J"⟩
def dkwX0_longMurmur_0 : List UInt8 := [27, 28, 184, 0, 18, 184, 0, 32, 173]
abbrev dktX0_longMurmur_0 : List UInt8 := dkwX0_longMurmur_0 ++ []
theorem dksX0_longMurmur_0 : cX0_longMurmur.data.toList.drop 0 = dktX0_longMurmur_0 := by decide +kernel
theorem dX0_longMurmur_0 : decode cX0_longMurmur 0 = .ok (.iload_n 1, 1) := dk_27 (dk_at dksX0_longMurmur_0 0 rfl rfl)
theorem dX0_longMurmur_1 : decode cX0_longMurmur 1 = .ok (.iload_n 2, 1) := dk_28 (dk_at dksX0_longMurmur_0 1 rfl rfl)
theorem dX0_longMurmur_2 : decode cX0_longMurmur 2 = .ok (.invokestatic 18, 3) := dk_184 0 18 (dk_at dksX0_longMurmur_0 2 rfl rfl)
theorem dX0_longMurmur_5 : decode cX0_longMurmur 5 = .ok (.invokestatic 32, 3) := dk_184 0 32 (dk_at dksX0_longMurmur_0 5 rfl rfl)
theorem dX0_longMurmur_8 : decode cX0_longMurmur 8 = .ok (.lreturn, 1) := dk_173 (dk_at dksX0_longMurmur_0 8 rfl rfl)
abbrev cX0_power : ByteArray := prog_2_method_9_code
def yX0_power : MethodName := ⟨RX0, "power", "(I)I"⟩
def dkwX0_power_0 : List UInt8 := [27, 18, 34, 126, 184, 0, 35, 172]
abbrev dktX0_power_0 : List UInt8 := dkwX0_power_0 ++ []
theorem dksX0_power_0 : cX0_power.data.toList.drop 0 = dktX0_power_0 := by decide +kernel
theorem dX0_power_0 : decode cX0_power 0 = .ok (.iload_n 1, 1) := dk_27 (dk_at dksX0_power_0 0 rfl rfl)
theorem dX0_power_1 : decode cX0_power 1 = .ok (.ldc 34, 2) := dk_18 34 (dk_at dksX0_power_0 1 rfl rfl)
theorem dX0_power_3 : decode cX0_power 3 = .ok (.iand, 1) := dk_126 (dk_at dksX0_power_0 3 rfl rfl)
theorem dX0_power_4 : decode cX0_power 4 = .ok (.invokestatic 35, 3) := dk_184 0 35 (dk_at dksX0_power_0 4 rfl rfl)
theorem dX0_power_7 : decode cX0_power 7 = .ok (.ireturn, 1) := dk_172 (dk_at dksX0_power_0 7 rfl rfl)
abbrev cX0_longPower : ByteArray := prog_2_method_10_code
def yX0_longPower : MethodName := ⟨RX0, "longPower", "(II)J"⟩
def dkwX0_longPower_0 : List UInt8 := [27, 28, 184, 0, 18, 20, 0, 38, 127, 184, 0, 40, 173]
abbrev dktX0_longPower_0 : List UInt8 := dkwX0_longPower_0 ++ []
theorem dksX0_longPower_0 : cX0_longPower.data.toList.drop 0 = dktX0_longPower_0 := by decide +kernel
theorem dX0_longPower_0 : decode cX0_longPower 0 = .ok (.iload_n 1, 1) := dk_27 (dk_at dksX0_longPower_0 0 rfl rfl)
theorem dX0_longPower_1 : decode cX0_longPower 1 = .ok (.iload_n 2, 1) := dk_28 (dk_at dksX0_longPower_0 1 rfl rfl)
theorem dX0_longPower_2 : decode cX0_longPower 2 = .ok (.invokestatic 18, 3) := dk_184 0 18 (dk_at dksX0_longPower_0 2 rfl rfl)
theorem dX0_longPower_5 : decode cX0_longPower 5 = .ok (.ldc2_w 38, 3) := dk_20 0 38 (dk_at dksX0_longPower_0 5 rfl rfl)
theorem dX0_longPower_8 : decode cX0_longPower 8 = .ok (.land, 1) := dk_127 (dk_at dksX0_longPower_0 8 rfl rfl)
theorem dX0_longPower_9 : decode cX0_longPower 9 = .ok (.invokestatic 40, 3) := dk_184 0 40 (dk_at dksX0_longPower_0 9 rfl rfl)
theorem dX0_longPower_12 : decode cX0_longPower 12 = .ok (.lreturn, 1) := dk_173 (dk_at dksX0_longPower_0 12 rfl rfl)
theorem q1 : (Jvm.Cond.initialized "MixDesk") ∈ lw_all := lw_g (lw_at lw_m0 1 rfl) rfl
theorem q8 : (Jvm.Cond.instantiable "MixDesk" (0 : Nat)) ∈ lw_all := lw_g (lw_at lw_m0 8 rfl) rfl
theorem q10 : (Jvm.Cond.instanceMethod ({ cls := "MixDesk", name := "<init>", desc := "()V" } : Jvm.MethodName)) ∈ lw_all := lw_g (lw_at lw_m0 10 rfl) rfl
theorem q11 : (Jvm.Cond.code ({ cls := "MixDesk", name := "<init>", desc := "()V" } : Jvm.MethodName) prog_2_method_1_code (1 : Nat) (Option.none : Option Jvm.ClassFile.FieldType)) ∈ lw_all := lw_g (lw_at lw_m0 11 rfl) rfl
theorem q12 : (Jvm.Cond.methodLink "MixDesk" (1 : Nat) ({ cls := "java/lang/Object", name := "<init>", desc := "()V" } : Jvm.MethodName)) ∈ lw_all := lw_g (lw_at lw_m0 12 rfl) rfl
theorem q15 : (Jvm.Cond.superclass "MixDesk" "java/lang/Object") ∈ lw_all := lw_g (lw_at lw_m0 15 rfl) rfl
theorem q17 : (Jvm.Cond.instanceMethod ({ cls := "MixDesk", name := "mix", desc := "(I)I" } : Jvm.MethodName)) ∈ lw_all := lw_g (lw_at lw_m0 17 rfl) rfl
theorem q18 : (Jvm.Cond.selects "MixDesk" ({ cls := "MixDesk", name := "mix", desc := "(I)I" } : Jvm.MethodName) ({ cls := "MixDesk", name := "mix", desc := "(I)I" } : Jvm.MethodName)) ∈ lw_all := lw_g (lw_at lw_m0 18 rfl) rfl
theorem q19 : (Jvm.Cond.code ({ cls := "MixDesk", name := "mix", desc := "(I)I" } : Jvm.MethodName) prog_2_method_3_code (2 : Nat) (Option.some Jvm.ClassFile.FieldType.int)) ∈ lw_all := lw_g (lw_at lw_m0 19 rfl) rfl
theorem q20 : (Jvm.Cond.methodLink "MixDesk" (9 : Nat) ({ cls := "HashCommon", name := "mix", desc := "(I)I" } : Jvm.MethodName)) ∈ lw_all := lw_g (lw_at lw_m0 20 rfl) rfl
theorem q25 : (Jvm.Cond.instanceMethod ({ cls := "MixDesk", name := "back", desc := "(I)I" } : Jvm.MethodName)) ∈ lw_all := lw_g (lw_at lw_m0 25 rfl) rfl
theorem q26 : (Jvm.Cond.selects "MixDesk" ({ cls := "MixDesk", name := "back", desc := "(I)I" } : Jvm.MethodName) ({ cls := "MixDesk", name := "back", desc := "(I)I" } : Jvm.MethodName)) ∈ lw_all := lw_g (lw_at lw_m0 26 rfl) rfl
theorem q27 : (Jvm.Cond.code ({ cls := "MixDesk", name := "back", desc := "(I)I" } : Jvm.MethodName) prog_2_method_4_code (2 : Nat) (Option.some Jvm.ClassFile.FieldType.int)) ∈ lw_all := lw_g (lw_at lw_m0 27 rfl) rfl
theorem q28 : (Jvm.Cond.methodLink "MixDesk" (15 : Nat) ({ cls := "HashCommon", name := "invMix", desc := "(I)I" } : Jvm.MethodName)) ∈ lw_all := lw_g (lw_at lw_m0 28 rfl) rfl
theorem q33 : (Jvm.Cond.instanceMethod ({ cls := "MixDesk", name := "longMix", desc := "(II)J" } : Jvm.MethodName)) ∈ lw_all := lw_g (lw_at lw_m0 33 rfl) rfl
theorem q34 : (Jvm.Cond.selects "MixDesk" ({ cls := "MixDesk", name := "longMix", desc := "(II)J" } : Jvm.MethodName) ({ cls := "MixDesk", name := "longMix", desc := "(II)J" } : Jvm.MethodName)) ∈ lw_all := lw_g (lw_at lw_m0 34 rfl) rfl
theorem q35 : (Jvm.Cond.code ({ cls := "MixDesk", name := "longMix", desc := "(II)J" } : Jvm.MethodName) prog_2_method_5_code (3 : Nat) (Option.some Jvm.ClassFile.FieldType.long)) ∈ lw_all := lw_g (lw_at lw_m0 35 rfl) rfl
theorem q36 : (Jvm.Cond.methodLink "MixDesk" (18 : Nat) ({ cls := "MixDesk", name := "wide", desc := "(II)J" } : Jvm.MethodName)) ∈ lw_all := lw_g (lw_at lw_m0 36 rfl) rfl
theorem q37 : (Jvm.Cond.static ({ cls := "MixDesk", name := "wide", desc := "(II)J" } : Jvm.MethodName)) ∈ lw_all := lw_g (lw_at lw_m0 37 rfl) rfl
theorem q38 : (Jvm.Cond.code ({ cls := "MixDesk", name := "wide", desc := "(II)J" } : Jvm.MethodName) prog_2_method_2_code (2 : Nat) (Option.some Jvm.ClassFile.FieldType.long)) ∈ lw_all := lw_g (lw_at lw_m0 38 rfl) rfl
theorem q39 : (Jvm.Cond.constantLong "MixDesk" (7 : Nat) (4294967295 : Int64)) ∈ lw_all := lw_g (lw_at lw_m0 39 rfl) rfl
theorem q40 : (Jvm.Cond.methodLink "MixDesk" (24 : Nat) ({ cls := "HashCommon", name := "mix", desc := "(J)J" } : Jvm.MethodName)) ∈ lw_all := lw_g (lw_at lw_m0 40 rfl) rfl
theorem q45 : (Jvm.Cond.instanceMethod ({ cls := "MixDesk", name := "longBack", desc := "(II)J" } : Jvm.MethodName)) ∈ lw_all := lw_g (lw_at lw_m0 45 rfl) rfl
theorem q46 : (Jvm.Cond.selects "MixDesk" ({ cls := "MixDesk", name := "longBack", desc := "(II)J" } : Jvm.MethodName) ({ cls := "MixDesk", name := "longBack", desc := "(II)J" } : Jvm.MethodName)) ∈ lw_all := lw_g (lw_at lw_m0 46 rfl) rfl
theorem q47 : (Jvm.Cond.code ({ cls := "MixDesk", name := "longBack", desc := "(II)J" } : Jvm.MethodName) prog_2_method_6_code (3 : Nat) (Option.some Jvm.ClassFile.FieldType.long)) ∈ lw_all := lw_g (lw_at lw_m0 47 rfl) rfl
theorem q48 : (Jvm.Cond.methodLink "MixDesk" (27 : Nat) ({ cls := "HashCommon", name := "invMix", desc := "(J)J" } : Jvm.MethodName)) ∈ lw_all := lw_g (lw_at lw_m0 48 rfl) rfl
theorem q53 : (Jvm.Cond.instanceMethod ({ cls := "MixDesk", name := "murmur", desc := "(I)I" } : Jvm.MethodName)) ∈ lw_all := lw_g (lw_at lw_m0 53 rfl) rfl
theorem q54 : (Jvm.Cond.selects "MixDesk" ({ cls := "MixDesk", name := "murmur", desc := "(I)I" } : Jvm.MethodName) ({ cls := "MixDesk", name := "murmur", desc := "(I)I" } : Jvm.MethodName)) ∈ lw_all := lw_g (lw_at lw_m0 54 rfl) rfl
theorem q55 : (Jvm.Cond.code ({ cls := "MixDesk", name := "murmur", desc := "(I)I" } : Jvm.MethodName) prog_2_method_7_code (2 : Nat) (Option.some Jvm.ClassFile.FieldType.int)) ∈ lw_all := lw_g (lw_at lw_m0 55 rfl) rfl
theorem q56 : (Jvm.Cond.methodLink "MixDesk" (29 : Nat) ({ cls := "HashCommon", name := "murmurHash3", desc := "(I)I" } : Jvm.MethodName)) ∈ lw_all := lw_g (lw_at lw_m0 56 rfl) rfl
theorem q62 : (Jvm.Cond.instanceMethod ({ cls := "MixDesk", name := "longMurmur", desc := "(II)J" } : Jvm.MethodName)) ∈ lw_all := lw_g (lw_at lw_m0 62 rfl) rfl
theorem q63 : (Jvm.Cond.selects "MixDesk" ({ cls := "MixDesk", name := "longMurmur", desc := "(II)J" } : Jvm.MethodName) ({ cls := "MixDesk", name := "longMurmur", desc := "(II)J" } : Jvm.MethodName)) ∈ lw_all := lw_g (lw_at lw_m0 63 rfl) rfl
theorem q64 : (Jvm.Cond.code ({ cls := "MixDesk", name := "longMurmur", desc := "(II)J" } : Jvm.MethodName) prog_2_method_8_code (3 : Nat) (Option.some Jvm.ClassFile.FieldType.long)) ∈ lw_all := lw_g (lw_at lw_m0 64 rfl) rfl
theorem q65 : (Jvm.Cond.methodLink "MixDesk" (32 : Nat) ({ cls := "HashCommon", name := "murmurHash3", desc := "(J)J" } : Jvm.MethodName)) ∈ lw_all := lw_g (lw_at lw_m0 65 rfl) rfl
theorem q71 : (Jvm.Cond.instanceMethod ({ cls := "MixDesk", name := "power", desc := "(I)I" } : Jvm.MethodName)) ∈ lw_all := lw_g (lw_at lw_m0 71 rfl) rfl
theorem q72 : (Jvm.Cond.selects "MixDesk" ({ cls := "MixDesk", name := "power", desc := "(I)I" } : Jvm.MethodName) ({ cls := "MixDesk", name := "power", desc := "(I)I" } : Jvm.MethodName)) ∈ lw_all := lw_g (lw_at lw_m0 72 rfl) rfl
theorem q73 : (Jvm.Cond.code ({ cls := "MixDesk", name := "power", desc := "(I)I" } : Jvm.MethodName) prog_2_method_9_code (2 : Nat) (Option.some Jvm.ClassFile.FieldType.int)) ∈ lw_all := lw_g (lw_at lw_m0 73 rfl) rfl
theorem q74 : (Jvm.Cond.constant "MixDesk" (34 : Nat) (1073741823 : Int32)) ∈ lw_all := lw_g (lw_at lw_m0 74 rfl) rfl
theorem q75 : (Jvm.Cond.methodLink "MixDesk" (35 : Nat) ({ cls := "HashCommon", name := "nextPowerOfTwo", desc := "(I)I" } : Jvm.MethodName)) ∈ lw_all := lw_g (lw_at lw_m0 75 rfl) rfl
theorem q83 : (Jvm.Cond.instanceMethod ({ cls := "MixDesk", name := "longPower", desc := "(II)J" } : Jvm.MethodName)) ∈ lw_all := lw_g (lw_at lw_m0 83 rfl) rfl
theorem q84 : (Jvm.Cond.selects "MixDesk" ({ cls := "MixDesk", name := "longPower", desc := "(II)J" } : Jvm.MethodName) ({ cls := "MixDesk", name := "longPower", desc := "(II)J" } : Jvm.MethodName)) ∈ lw_all := lw_g (lw_at lw_m0 84 rfl) rfl
theorem q85 : (Jvm.Cond.code ({ cls := "MixDesk", name := "longPower", desc := "(II)J" } : Jvm.MethodName) prog_2_method_10_code (3 : Nat) (Option.some Jvm.ClassFile.FieldType.long)) ∈ lw_all := lw_g (lw_at lw_m0 85 rfl) rfl
theorem q86 : (Jvm.Cond.constantLong "MixDesk" (38 : Nat) (4611686018427387903 : Int64)) ∈ lw_all := lw_g (lw_at lw_m0 86 rfl) rfl
theorem q87 : (Jvm.Cond.methodLink "MixDesk" (40 : Nat) ({ cls := "HashCommon", name := "nextPowerOfTwo", desc := "(J)J" } : Jvm.MethodName)) ∈ lw_all := lw_g (lw_at lw_m0 87 rfl) rfl
/-! MixDeskModel -/
set_option maxRecDepth 100000
def RX1 : String := "MixDeskModel"
abbrev cX1_init : ByteArray := prog_4_method_1_code
def yX1_init : MethodName := ⟨RX1, "<init>", "()V"⟩
theorem dX1_init_0 : decode cX1_init 0 = .ok (.aload_n 0, 1) := by decide +kernel
theorem dX1_init_1 : decode cX1_init 1 = .ok (.invokespecial 1, 3) := by decide +kernel
theorem dX1_init_4 : decode cX1_init 4 = .ok (.return_, 1) := by decide +kernel
abbrev cX1_mix : ByteArray := prog_4_method_5_code
def yX1_mix : MethodName := ⟨RX1, "mix", "(I)I"⟩
def dkwX1_mix_0 : List UInt8 := [27, 18, 15, 104, 61, 28, 28, 16, 16, 124, 130, 172]
abbrev dktX1_mix_0 : List UInt8 := dkwX1_mix_0 ++ []
theorem dksX1_mix_0 : cX1_mix.data.toList.drop 0 = dktX1_mix_0 := by decide +kernel
theorem dX1_mix_0 : decode cX1_mix 0 = .ok (.iload_n 1, 1) := dk_27 (dk_at dksX1_mix_0 0 rfl rfl)
theorem dX1_mix_1 : decode cX1_mix 1 = .ok (.ldc 15, 2) := dk_18 15 (dk_at dksX1_mix_0 1 rfl rfl)
theorem dX1_mix_3 : decode cX1_mix 3 = .ok (.imul, 1) := dk_104 (dk_at dksX1_mix_0 3 rfl rfl)
theorem dX1_mix_4 : decode cX1_mix 4 = .ok (.istore_n 2, 1) := dk_61 (dk_at dksX1_mix_0 4 rfl rfl)
theorem dX1_mix_5 : decode cX1_mix 5 = .ok (.iload_n 2, 1) := dk_28 (dk_at dksX1_mix_0 5 rfl rfl)
theorem dX1_mix_6 : decode cX1_mix 6 = .ok (.iload_n 2, 1) := dk_28 (dk_at dksX1_mix_0 6 rfl rfl)
theorem dX1_mix_7 : decode cX1_mix 7 = .ok (.bipush 16, 2) := dk_16 16 (dk_at dksX1_mix_0 7 rfl rfl)
theorem dX1_mix_9 : decode cX1_mix 9 = .ok (.iushr, 1) := dk_124 (dk_at dksX1_mix_0 9 rfl rfl)
theorem dX1_mix_10 : decode cX1_mix 10 = .ok (.ixor, 1) := dk_130 (dk_at dksX1_mix_0 10 rfl rfl)
theorem dX1_mix_11 : decode cX1_mix 11 = .ok (.ireturn, 1) := dk_172 (dk_at dksX1_mix_0 11 rfl rfl)
abbrev cX1_back : ByteArray := prog_4_method_6_code
def yX1_back : MethodName := ⟨RX1, "back", "(I)I"⟩
def dkwX1_back_1 : List UInt8 := [172]
abbrev dktX1_back_1 : List UInt8 := dkwX1_back_1 ++ []
def dkwX1_back_0 : List UInt8 := [27, 133, 20, 0, 9, 127, 16, 16, 16, 32, 184, 0, 16, 136, 61, 28, 20, 0, 20, 184, 0, 22, 136, 104]
abbrev dktX1_back_0 : List UInt8 := dkwX1_back_0 ++ dktX1_back_1
theorem dksX1_back_0 : cX1_back.data.toList.drop 0 = dktX1_back_0 := by decide +kernel
theorem dksX1_back_1 : cX1_back.data.toList.drop 24 = dktX1_back_1 := dk_seg dksX1_back_0 24 rfl rfl
theorem dX1_back_0 : decode cX1_back 0 = .ok (.iload_n 1, 1) := dk_27 (dk_at dksX1_back_0 0 rfl rfl)
theorem dX1_back_1 : decode cX1_back 1 = .ok (.i2l, 1) := dk_133 (dk_at dksX1_back_0 1 rfl rfl)
theorem dX1_back_2 : decode cX1_back 2 = .ok (.ldc2_w 9, 3) := dk_20 0 9 (dk_at dksX1_back_0 2 rfl rfl)
theorem dX1_back_5 : decode cX1_back 5 = .ok (.land, 1) := dk_127 (dk_at dksX1_back_0 5 rfl rfl)
theorem dX1_back_6 : decode cX1_back 6 = .ok (.bipush 16, 2) := dk_16 16 (dk_at dksX1_back_0 6 rfl rfl)
theorem dX1_back_8 : decode cX1_back 8 = .ok (.bipush 32, 2) := dk_16 32 (dk_at dksX1_back_0 8 rfl rfl)
theorem dX1_back_10 : decode cX1_back 10 = .ok (.invokestatic 16, 3) := dk_184 0 16 (dk_at dksX1_back_0 10 rfl rfl)
theorem dX1_back_13 : decode cX1_back 13 = .ok (.l2i, 1) := dk_136 (dk_at dksX1_back_0 13 rfl rfl)
theorem dX1_back_14 : decode cX1_back 14 = .ok (.istore_n 2, 1) := dk_61 (dk_at dksX1_back_0 14 rfl rfl)
theorem dX1_back_15 : decode cX1_back 15 = .ok (.iload_n 2, 1) := dk_28 (dk_at dksX1_back_0 15 rfl rfl)
theorem dX1_back_16 : decode cX1_back 16 = .ok (.ldc2_w 20, 3) := dk_20 0 20 (dk_at dksX1_back_0 16 rfl rfl)
theorem dX1_back_19 : decode cX1_back 19 = .ok (.invokestatic 22, 3) := dk_184 0 22 (dk_at dksX1_back_0 19 rfl rfl)
theorem dX1_back_22 : decode cX1_back 22 = .ok (.l2i, 1) := dk_136 (dk_at dksX1_back_0 22 rfl rfl)
theorem dX1_back_23 : decode cX1_back 23 = .ok (.imul, 1) := dk_104 (dk_at dksX1_back_0 23 rfl rfl)
theorem dX1_back_24 : decode cX1_back 24 = .ok (.ireturn, 1) := dk_172 (dk_at dksX1_back_1 0 rfl rfl)
abbrev cX1_unshifted : ByteArray := prog_4_method_4_code
def yX1_unshifted : MethodName := ⟨RX1, "unshifted", "(JII)J"⟩
def dkwX1_unshifted_1 : List UInt8 := [54, 6, 167, 255, 236, 22, 4, 173]
abbrev dktX1_unshifted_1 : List UInt8 := dkwX1_unshifted_1 ++ []
def dkwX1_unshifted_0 : List UInt8 := [30, 55, 4, 28, 54, 6, 21, 6, 29, 162, 0, 20, 30, 22, 4, 28, 125, 131, 55, 4, 21, 6, 28, 96]
abbrev dktX1_unshifted_0 : List UInt8 := dkwX1_unshifted_0 ++ dktX1_unshifted_1
theorem dksX1_unshifted_0 : cX1_unshifted.data.toList.drop 0 = dktX1_unshifted_0 := by decide +kernel
theorem dksX1_unshifted_1 : cX1_unshifted.data.toList.drop 24 = dktX1_unshifted_1 := dk_seg dksX1_unshifted_0 24 rfl rfl
theorem dX1_unshifted_0 : decode cX1_unshifted 0 = .ok (.lload_n 0, 1) := dk_30 (dk_at dksX1_unshifted_0 0 rfl rfl)
theorem dX1_unshifted_1 : decode cX1_unshifted 1 = .ok (.lstore 4, 2) := dk_55 4 (dk_at dksX1_unshifted_0 1 rfl rfl)
theorem dX1_unshifted_3 : decode cX1_unshifted 3 = .ok (.iload_n 2, 1) := dk_28 (dk_at dksX1_unshifted_0 3 rfl rfl)
theorem dX1_unshifted_4 : decode cX1_unshifted 4 = .ok (.istore 6, 2) := dk_54 6 (dk_at dksX1_unshifted_0 4 rfl rfl)
theorem dX1_unshifted_6 : decode cX1_unshifted 6 = .ok (.iload 6, 2) := dk_21 6 (dk_at dksX1_unshifted_0 6 rfl rfl)
theorem dX1_unshifted_8 : decode cX1_unshifted 8 = .ok (.iload_n 3, 1) := dk_29 (dk_at dksX1_unshifted_0 8 rfl rfl)
theorem dX1_unshifted_9 : decode cX1_unshifted 9 = .ok (.if_icmp .ge 20, 3) := dk_162 0 20 (dk_at dksX1_unshifted_0 9 rfl rfl)
theorem dX1_unshifted_12 : decode cX1_unshifted 12 = .ok (.lload_n 0, 1) := dk_30 (dk_at dksX1_unshifted_0 12 rfl rfl)
theorem dX1_unshifted_13 : decode cX1_unshifted 13 = .ok (.lload 4, 2) := dk_22 4 (dk_at dksX1_unshifted_0 13 rfl rfl)
theorem dX1_unshifted_15 : decode cX1_unshifted 15 = .ok (.iload_n 2, 1) := dk_28 (dk_at dksX1_unshifted_0 15 rfl rfl)
theorem dX1_unshifted_16 : decode cX1_unshifted 16 = .ok (.lushr, 1) := dk_125 (dk_at dksX1_unshifted_0 16 rfl rfl)
theorem dX1_unshifted_17 : decode cX1_unshifted 17 = .ok (.lxor, 1) := dk_131 (dk_at dksX1_unshifted_0 17 rfl rfl)
theorem dX1_unshifted_18 : decode cX1_unshifted 18 = .ok (.lstore 4, 2) := dk_55 4 (dk_at dksX1_unshifted_0 18 rfl rfl)
theorem dX1_unshifted_20 : decode cX1_unshifted 20 = .ok (.iload 6, 2) := dk_21 6 (dk_at dksX1_unshifted_0 20 rfl rfl)
theorem dX1_unshifted_22 : decode cX1_unshifted 22 = .ok (.iload_n 2, 1) := dk_28 (dk_at dksX1_unshifted_0 22 rfl rfl)
theorem dX1_unshifted_23 : decode cX1_unshifted 23 = .ok (.iadd, 1) := dk_96 (dk_at dksX1_unshifted_0 23 rfl rfl)
theorem dX1_unshifted_24 : decode cX1_unshifted 24 = .ok (.istore 6, 2) := dk_54 6 (dk_at dksX1_unshifted_1 0 rfl rfl)
theorem dX1_unshifted_26 : decode cX1_unshifted 26 = .ok (.goto (-20), 3) := dk_167 255 236 (dk_at dksX1_unshifted_1 2 rfl rfl)
theorem dX1_unshifted_29 : decode cX1_unshifted 29 = .ok (.lload 4, 2) := dk_22 4 (dk_at dksX1_unshifted_1 5 rfl rfl)
theorem dX1_unshifted_31 : decode cX1_unshifted 31 = .ok (.lreturn, 1) := dk_173 (dk_at dksX1_unshifted_1 7 rfl rfl)
abbrev cX1_inverse : ByteArray := prog_4_method_3_code
def yX1_inverse : MethodName := ⟨RX1, "inverse", "(J)J"⟩
def dkwX1_inverse_1 : List UInt8 := [132, 4, 1, 167, 255, 236, 32, 173]
abbrev dktX1_inverse_1 : List UInt8 := dkwX1_inverse_1 ++ []
def dkwX1_inverse_0 : List UInt8 := [30, 65, 3, 54, 4, 21, 4, 16, 6, 162, 0, 19, 32, 20, 0, 11, 30, 32, 105, 101, 105, 65]
abbrev dktX1_inverse_0 : List UInt8 := dkwX1_inverse_0 ++ dktX1_inverse_1
theorem dksX1_inverse_0 : cX1_inverse.data.toList.drop 0 = dktX1_inverse_0 := by decide +kernel
theorem dksX1_inverse_1 : cX1_inverse.data.toList.drop 22 = dktX1_inverse_1 := dk_seg dksX1_inverse_0 22 rfl rfl
theorem dX1_inverse_0 : decode cX1_inverse 0 = .ok (.lload_n 0, 1) := dk_30 (dk_at dksX1_inverse_0 0 rfl rfl)
theorem dX1_inverse_1 : decode cX1_inverse 1 = .ok (.lstore_n 2, 1) := dk_65 (dk_at dksX1_inverse_0 1 rfl rfl)
theorem dX1_inverse_2 : decode cX1_inverse 2 = .ok (.iconst 0, 1) := dk_3 (dk_at dksX1_inverse_0 2 rfl rfl)
theorem dX1_inverse_3 : decode cX1_inverse 3 = .ok (.istore 4, 2) := dk_54 4 (dk_at dksX1_inverse_0 3 rfl rfl)
theorem dX1_inverse_5 : decode cX1_inverse 5 = .ok (.iload 4, 2) := dk_21 4 (dk_at dksX1_inverse_0 5 rfl rfl)
theorem dX1_inverse_7 : decode cX1_inverse 7 = .ok (.bipush 6, 2) := dk_16 6 (dk_at dksX1_inverse_0 7 rfl rfl)
theorem dX1_inverse_9 : decode cX1_inverse 9 = .ok (.if_icmp .ge 19, 3) := dk_162 0 19 (dk_at dksX1_inverse_0 9 rfl rfl)
theorem dX1_inverse_12 : decode cX1_inverse 12 = .ok (.lload_n 2, 1) := dk_32 (dk_at dksX1_inverse_0 12 rfl rfl)
theorem dX1_inverse_13 : decode cX1_inverse 13 = .ok (.ldc2_w 11, 3) := dk_20 0 11 (dk_at dksX1_inverse_0 13 rfl rfl)
theorem dX1_inverse_16 : decode cX1_inverse 16 = .ok (.lload_n 0, 1) := dk_30 (dk_at dksX1_inverse_0 16 rfl rfl)
theorem dX1_inverse_17 : decode cX1_inverse 17 = .ok (.lload_n 2, 1) := dk_32 (dk_at dksX1_inverse_0 17 rfl rfl)
theorem dX1_inverse_18 : decode cX1_inverse 18 = .ok (.lmul, 1) := dk_105 (dk_at dksX1_inverse_0 18 rfl rfl)
theorem dX1_inverse_19 : decode cX1_inverse 19 = .ok (.lsub, 1) := dk_101 (dk_at dksX1_inverse_0 19 rfl rfl)
theorem dX1_inverse_20 : decode cX1_inverse 20 = .ok (.lmul, 1) := dk_105 (dk_at dksX1_inverse_0 20 rfl rfl)
theorem dX1_inverse_21 : decode cX1_inverse 21 = .ok (.lstore_n 2, 1) := dk_65 (dk_at dksX1_inverse_0 21 rfl rfl)
theorem dX1_inverse_22 : decode cX1_inverse 22 = .ok (.iinc 4 1, 3) := dk_132 4 1 (dk_at dksX1_inverse_1 0 rfl rfl)
theorem dX1_inverse_25 : decode cX1_inverse 25 = .ok (.goto (-20), 3) := dk_167 255 236 (dk_at dksX1_inverse_1 3 rfl rfl)
theorem dX1_inverse_28 : decode cX1_inverse 28 = .ok (.lload_n 2, 1) := dk_32 (dk_at dksX1_inverse_1 6 rfl rfl)
theorem dX1_inverse_29 : decode cX1_inverse 29 = .ok (.lreturn, 1) := dk_173 (dk_at dksX1_inverse_1 7 rfl rfl)
abbrev cX1_longMix : ByteArray := prog_4_method_7_code
def yX1_longMix : MethodName := ⟨RX1, "longMix", "(II)J"⟩
def dkwX1_longMix_0 : List UInt8 := [27, 28, 184, 0, 26, 20, 0, 30, 105, 66, 33, 33, 16, 32, 125, 131, 66, 33, 33, 16, 16, 125, 131, 173]
abbrev dktX1_longMix_0 : List UInt8 := dkwX1_longMix_0 ++ []
theorem dksX1_longMix_0 : cX1_longMix.data.toList.drop 0 = dktX1_longMix_0 := by decide +kernel
theorem dX1_longMix_0 : decode cX1_longMix 0 = .ok (.iload_n 1, 1) := dk_27 (dk_at dksX1_longMix_0 0 rfl rfl)
theorem dX1_longMix_1 : decode cX1_longMix 1 = .ok (.iload_n 2, 1) := dk_28 (dk_at dksX1_longMix_0 1 rfl rfl)
theorem dX1_longMix_2 : decode cX1_longMix 2 = .ok (.invokestatic 26, 3) := dk_184 0 26 (dk_at dksX1_longMix_0 2 rfl rfl)
theorem dX1_longMix_5 : decode cX1_longMix 5 = .ok (.ldc2_w 30, 3) := dk_20 0 30 (dk_at dksX1_longMix_0 5 rfl rfl)
theorem dX1_longMix_8 : decode cX1_longMix 8 = .ok (.lmul, 1) := dk_105 (dk_at dksX1_longMix_0 8 rfl rfl)
theorem dX1_longMix_9 : decode cX1_longMix 9 = .ok (.lstore_n 3, 1) := dk_66 (dk_at dksX1_longMix_0 9 rfl rfl)
theorem dX1_longMix_10 : decode cX1_longMix 10 = .ok (.lload_n 3, 1) := dk_33 (dk_at dksX1_longMix_0 10 rfl rfl)
theorem dX1_longMix_11 : decode cX1_longMix 11 = .ok (.lload_n 3, 1) := dk_33 (dk_at dksX1_longMix_0 11 rfl rfl)
theorem dX1_longMix_12 : decode cX1_longMix 12 = .ok (.bipush 32, 2) := dk_16 32 (dk_at dksX1_longMix_0 12 rfl rfl)
theorem dX1_longMix_14 : decode cX1_longMix 14 = .ok (.lushr, 1) := dk_125 (dk_at dksX1_longMix_0 14 rfl rfl)
theorem dX1_longMix_15 : decode cX1_longMix 15 = .ok (.lxor, 1) := dk_131 (dk_at dksX1_longMix_0 15 rfl rfl)
theorem dX1_longMix_16 : decode cX1_longMix 16 = .ok (.lstore_n 3, 1) := dk_66 (dk_at dksX1_longMix_0 16 rfl rfl)
theorem dX1_longMix_17 : decode cX1_longMix 17 = .ok (.lload_n 3, 1) := dk_33 (dk_at dksX1_longMix_0 17 rfl rfl)
theorem dX1_longMix_18 : decode cX1_longMix 18 = .ok (.lload_n 3, 1) := dk_33 (dk_at dksX1_longMix_0 18 rfl rfl)
theorem dX1_longMix_19 : decode cX1_longMix 19 = .ok (.bipush 16, 2) := dk_16 16 (dk_at dksX1_longMix_0 19 rfl rfl)
theorem dX1_longMix_21 : decode cX1_longMix 21 = .ok (.lushr, 1) := dk_125 (dk_at dksX1_longMix_0 21 rfl rfl)
theorem dX1_longMix_22 : decode cX1_longMix 22 = .ok (.lxor, 1) := dk_131 (dk_at dksX1_longMix_0 22 rfl rfl)
theorem dX1_longMix_23 : decode cX1_longMix 23 = .ok (.lreturn, 1) := dk_173 (dk_at dksX1_longMix_0 23 rfl rfl)
abbrev cX1_wide : ByteArray := prog_4_method_2_code
def yX1_wide : MethodName := ⟨RX1, "wide", "(II)J"⟩
def dkwX1_wide_0 : List UInt8 := [26, 133, 65, 32, 20, 0, 7, 105, 27, 133, 20, 0, 9, 127, 97, 173]
abbrev dktX1_wide_0 : List UInt8 := dkwX1_wide_0 ++ []
theorem dksX1_wide_0 : cX1_wide.data.toList.drop 0 = dktX1_wide_0 := by decide +kernel
theorem dX1_wide_0 : decode cX1_wide 0 = .ok (.iload_n 0, 1) := dk_26 (dk_at dksX1_wide_0 0 rfl rfl)
theorem dX1_wide_1 : decode cX1_wide 1 = .ok (.i2l, 1) := dk_133 (dk_at dksX1_wide_0 1 rfl rfl)
theorem dX1_wide_2 : decode cX1_wide 2 = .ok (.lstore_n 2, 1) := dk_65 (dk_at dksX1_wide_0 2 rfl rfl)
theorem dX1_wide_3 : decode cX1_wide 3 = .ok (.lload_n 2, 1) := dk_32 (dk_at dksX1_wide_0 3 rfl rfl)
theorem dX1_wide_4 : decode cX1_wide 4 = .ok (.ldc2_w 7, 3) := dk_20 0 7 (dk_at dksX1_wide_0 4 rfl rfl)
theorem dX1_wide_7 : decode cX1_wide 7 = .ok (.lmul, 1) := dk_105 (dk_at dksX1_wide_0 7 rfl rfl)
theorem dX1_wide_8 : decode cX1_wide 8 = .ok (.iload_n 1, 1) := dk_27 (dk_at dksX1_wide_0 8 rfl rfl)
theorem dX1_wide_9 : decode cX1_wide 9 = .ok (.i2l, 1) := dk_133 (dk_at dksX1_wide_0 9 rfl rfl)
theorem dX1_wide_10 : decode cX1_wide 10 = .ok (.ldc2_w 9, 3) := dk_20 0 9 (dk_at dksX1_wide_0 10 rfl rfl)
theorem dX1_wide_13 : decode cX1_wide 13 = .ok (.land, 1) := dk_127 (dk_at dksX1_wide_0 13 rfl rfl)
theorem dX1_wide_14 : decode cX1_wide 14 = .ok (.ladd, 1) := dk_97 (dk_at dksX1_wide_0 14 rfl rfl)
theorem dX1_wide_15 : decode cX1_wide 15 = .ok (.lreturn, 1) := dk_173 (dk_at dksX1_wide_0 15 rfl rfl)
abbrev cX1_longBack : ByteArray := prog_4_method_8_code
def yX1_longBack : MethodName := ⟨RX1, "longBack", "(II)J"⟩
def dkwX1_longBack_1 : List UInt8 := [20, 0, 30, 184, 0, 22, 105, 173]
abbrev dktX1_longBack_1 : List UInt8 := dkwX1_longBack_1 ++ []
def dkwX1_longBack_0 : List UInt8 := [27, 28, 184, 0, 26, 16, 16, 16, 64, 184, 0, 16, 66, 33, 16, 32, 16, 64, 184, 0, 16, 66, 33]
abbrev dktX1_longBack_0 : List UInt8 := dkwX1_longBack_0 ++ dktX1_longBack_1
theorem dksX1_longBack_0 : cX1_longBack.data.toList.drop 0 = dktX1_longBack_0 := by decide +kernel
theorem dksX1_longBack_1 : cX1_longBack.data.toList.drop 23 = dktX1_longBack_1 := dk_seg dksX1_longBack_0 23 rfl rfl
theorem dX1_longBack_0 : decode cX1_longBack 0 = .ok (.iload_n 1, 1) := dk_27 (dk_at dksX1_longBack_0 0 rfl rfl)
theorem dX1_longBack_1 : decode cX1_longBack 1 = .ok (.iload_n 2, 1) := dk_28 (dk_at dksX1_longBack_0 1 rfl rfl)
theorem dX1_longBack_2 : decode cX1_longBack 2 = .ok (.invokestatic 26, 3) := dk_184 0 26 (dk_at dksX1_longBack_0 2 rfl rfl)
theorem dX1_longBack_5 : decode cX1_longBack 5 = .ok (.bipush 16, 2) := dk_16 16 (dk_at dksX1_longBack_0 5 rfl rfl)
theorem dX1_longBack_7 : decode cX1_longBack 7 = .ok (.bipush 64, 2) := dk_16 64 (dk_at dksX1_longBack_0 7 rfl rfl)
theorem dX1_longBack_9 : decode cX1_longBack 9 = .ok (.invokestatic 16, 3) := dk_184 0 16 (dk_at dksX1_longBack_0 9 rfl rfl)
theorem dX1_longBack_12 : decode cX1_longBack 12 = .ok (.lstore_n 3, 1) := dk_66 (dk_at dksX1_longBack_0 12 rfl rfl)
theorem dX1_longBack_13 : decode cX1_longBack 13 = .ok (.lload_n 3, 1) := dk_33 (dk_at dksX1_longBack_0 13 rfl rfl)
theorem dX1_longBack_14 : decode cX1_longBack 14 = .ok (.bipush 32, 2) := dk_16 32 (dk_at dksX1_longBack_0 14 rfl rfl)
theorem dX1_longBack_16 : decode cX1_longBack 16 = .ok (.bipush 64, 2) := dk_16 64 (dk_at dksX1_longBack_0 16 rfl rfl)
theorem dX1_longBack_18 : decode cX1_longBack 18 = .ok (.invokestatic 16, 3) := dk_184 0 16 (dk_at dksX1_longBack_0 18 rfl rfl)
theorem dX1_longBack_21 : decode cX1_longBack 21 = .ok (.lstore_n 3, 1) := dk_66 (dk_at dksX1_longBack_0 21 rfl rfl)
theorem dX1_longBack_22 : decode cX1_longBack 22 = .ok (.lload_n 3, 1) := dk_33 (dk_at dksX1_longBack_0 22 rfl rfl)
theorem dX1_longBack_23 : decode cX1_longBack 23 = .ok (.ldc2_w 30, 3) := dk_20 0 30 (dk_at dksX1_longBack_1 0 rfl rfl)
theorem dX1_longBack_26 : decode cX1_longBack 26 = .ok (.invokestatic 22, 3) := dk_184 0 22 (dk_at dksX1_longBack_1 3 rfl rfl)
theorem dX1_longBack_29 : decode cX1_longBack 29 = .ok (.lmul, 1) := dk_105 (dk_at dksX1_longBack_1 6 rfl rfl)
theorem dX1_longBack_30 : decode cX1_longBack 30 = .ok (.lreturn, 1) := dk_173 (dk_at dksX1_longBack_1 7 rfl rfl)
abbrev cX1_murmur : ByteArray := prog_4_method_9_code
def yX1_murmur : MethodName := ⟨RX1, "murmur", "(I)I"⟩
def dkwX1_murmur_1 : List UInt8 := [124, 130, 172]
abbrev dktX1_murmur_1 : List UInt8 := dkwX1_murmur_1 ++ []
def dkwX1_murmur_0 : List UInt8 := [27, 27, 16, 16, 124, 130, 18, 32, 104, 61, 28, 28, 16, 13, 124, 130, 18, 33, 104, 61, 28, 28, 16, 16]
abbrev dktX1_murmur_0 : List UInt8 := dkwX1_murmur_0 ++ dktX1_murmur_1
theorem dksX1_murmur_0 : cX1_murmur.data.toList.drop 0 = dktX1_murmur_0 := by decide +kernel
theorem dksX1_murmur_1 : cX1_murmur.data.toList.drop 24 = dktX1_murmur_1 := dk_seg dksX1_murmur_0 24 rfl rfl
theorem dX1_murmur_0 : decode cX1_murmur 0 = .ok (.iload_n 1, 1) := dk_27 (dk_at dksX1_murmur_0 0 rfl rfl)
theorem dX1_murmur_1 : decode cX1_murmur 1 = .ok (.iload_n 1, 1) := dk_27 (dk_at dksX1_murmur_0 1 rfl rfl)
theorem dX1_murmur_2 : decode cX1_murmur 2 = .ok (.bipush 16, 2) := dk_16 16 (dk_at dksX1_murmur_0 2 rfl rfl)
theorem dX1_murmur_4 : decode cX1_murmur 4 = .ok (.iushr, 1) := dk_124 (dk_at dksX1_murmur_0 4 rfl rfl)
theorem dX1_murmur_5 : decode cX1_murmur 5 = .ok (.ixor, 1) := dk_130 (dk_at dksX1_murmur_0 5 rfl rfl)
theorem dX1_murmur_6 : decode cX1_murmur 6 = .ok (.ldc 32, 2) := dk_18 32 (dk_at dksX1_murmur_0 6 rfl rfl)
theorem dX1_murmur_8 : decode cX1_murmur 8 = .ok (.imul, 1) := dk_104 (dk_at dksX1_murmur_0 8 rfl rfl)
theorem dX1_murmur_9 : decode cX1_murmur 9 = .ok (.istore_n 2, 1) := dk_61 (dk_at dksX1_murmur_0 9 rfl rfl)
theorem dX1_murmur_10 : decode cX1_murmur 10 = .ok (.iload_n 2, 1) := dk_28 (dk_at dksX1_murmur_0 10 rfl rfl)
theorem dX1_murmur_11 : decode cX1_murmur 11 = .ok (.iload_n 2, 1) := dk_28 (dk_at dksX1_murmur_0 11 rfl rfl)
theorem dX1_murmur_12 : decode cX1_murmur 12 = .ok (.bipush 13, 2) := dk_16 13 (dk_at dksX1_murmur_0 12 rfl rfl)
theorem dX1_murmur_14 : decode cX1_murmur 14 = .ok (.iushr, 1) := dk_124 (dk_at dksX1_murmur_0 14 rfl rfl)
theorem dX1_murmur_15 : decode cX1_murmur 15 = .ok (.ixor, 1) := dk_130 (dk_at dksX1_murmur_0 15 rfl rfl)
theorem dX1_murmur_16 : decode cX1_murmur 16 = .ok (.ldc 33, 2) := dk_18 33 (dk_at dksX1_murmur_0 16 rfl rfl)
theorem dX1_murmur_18 : decode cX1_murmur 18 = .ok (.imul, 1) := dk_104 (dk_at dksX1_murmur_0 18 rfl rfl)
theorem dX1_murmur_19 : decode cX1_murmur 19 = .ok (.istore_n 2, 1) := dk_61 (dk_at dksX1_murmur_0 19 rfl rfl)
theorem dX1_murmur_20 : decode cX1_murmur 20 = .ok (.iload_n 2, 1) := dk_28 (dk_at dksX1_murmur_0 20 rfl rfl)
theorem dX1_murmur_21 : decode cX1_murmur 21 = .ok (.iload_n 2, 1) := dk_28 (dk_at dksX1_murmur_0 21 rfl rfl)
theorem dX1_murmur_22 : decode cX1_murmur 22 = .ok (.bipush 16, 2) := dk_16 16 (dk_at dksX1_murmur_0 22 rfl rfl)
theorem dX1_murmur_24 : decode cX1_murmur 24 = .ok (.iushr, 1) := dk_124 (dk_at dksX1_murmur_1 0 rfl rfl)
theorem dX1_murmur_25 : decode cX1_murmur 25 = .ok (.ixor, 1) := dk_130 (dk_at dksX1_murmur_1 1 rfl rfl)
theorem dX1_murmur_26 : decode cX1_murmur 26 = .ok (.ireturn, 1) := dk_172 (dk_at dksX1_murmur_1 2 rfl rfl)
abbrev cX1_longMurmur : ByteArray := prog_4_method_10_code
def yX1_longMurmur : MethodName := ⟨RX1, "longMurmur", "(II)J"⟩
def dkwX1_longMurmur_1 : List UInt8 := [20, 0, 36, 105, 66, 33, 33, 16, 33, 125, 131, 173]
abbrev dktX1_longMurmur_1 : List UInt8 := dkwX1_longMurmur_1 ++ []
def dkwX1_longMurmur_0 : List UInt8 := [27, 28, 184, 0, 26, 66, 33, 33, 16, 33, 125, 131, 20, 0, 34, 105, 66, 33, 33, 16, 33, 125, 131]
abbrev dktX1_longMurmur_0 : List UInt8 := dkwX1_longMurmur_0 ++ dktX1_longMurmur_1
theorem dksX1_longMurmur_0 : cX1_longMurmur.data.toList.drop 0 = dktX1_longMurmur_0 := by decide +kernel
theorem dksX1_longMurmur_1 : cX1_longMurmur.data.toList.drop 23 = dktX1_longMurmur_1 := dk_seg dksX1_longMurmur_0 23 rfl rfl
theorem dX1_longMurmur_0 : decode cX1_longMurmur 0 = .ok (.iload_n 1, 1) := dk_27 (dk_at dksX1_longMurmur_0 0 rfl rfl)
theorem dX1_longMurmur_1 : decode cX1_longMurmur 1 = .ok (.iload_n 2, 1) := dk_28 (dk_at dksX1_longMurmur_0 1 rfl rfl)
theorem dX1_longMurmur_2 : decode cX1_longMurmur 2 = .ok (.invokestatic 26, 3) := dk_184 0 26 (dk_at dksX1_longMurmur_0 2 rfl rfl)
theorem dX1_longMurmur_5 : decode cX1_longMurmur 5 = .ok (.lstore_n 3, 1) := dk_66 (dk_at dksX1_longMurmur_0 5 rfl rfl)
theorem dX1_longMurmur_6 : decode cX1_longMurmur 6 = .ok (.lload_n 3, 1) := dk_33 (dk_at dksX1_longMurmur_0 6 rfl rfl)
theorem dX1_longMurmur_7 : decode cX1_longMurmur 7 = .ok (.lload_n 3, 1) := dk_33 (dk_at dksX1_longMurmur_0 7 rfl rfl)
theorem dX1_longMurmur_8 : decode cX1_longMurmur 8 = .ok (.bipush 33, 2) := dk_16 33 (dk_at dksX1_longMurmur_0 8 rfl rfl)
theorem dX1_longMurmur_10 : decode cX1_longMurmur 10 = .ok (.lushr, 1) := dk_125 (dk_at dksX1_longMurmur_0 10 rfl rfl)
theorem dX1_longMurmur_11 : decode cX1_longMurmur 11 = .ok (.lxor, 1) := dk_131 (dk_at dksX1_longMurmur_0 11 rfl rfl)
theorem dX1_longMurmur_12 : decode cX1_longMurmur 12 = .ok (.ldc2_w 34, 3) := dk_20 0 34 (dk_at dksX1_longMurmur_0 12 rfl rfl)
theorem dX1_longMurmur_15 : decode cX1_longMurmur 15 = .ok (.lmul, 1) := dk_105 (dk_at dksX1_longMurmur_0 15 rfl rfl)
theorem dX1_longMurmur_16 : decode cX1_longMurmur 16 = .ok (.lstore_n 3, 1) := dk_66 (dk_at dksX1_longMurmur_0 16 rfl rfl)
theorem dX1_longMurmur_17 : decode cX1_longMurmur 17 = .ok (.lload_n 3, 1) := dk_33 (dk_at dksX1_longMurmur_0 17 rfl rfl)
theorem dX1_longMurmur_18 : decode cX1_longMurmur 18 = .ok (.lload_n 3, 1) := dk_33 (dk_at dksX1_longMurmur_0 18 rfl rfl)
theorem dX1_longMurmur_19 : decode cX1_longMurmur 19 = .ok (.bipush 33, 2) := dk_16 33 (dk_at dksX1_longMurmur_0 19 rfl rfl)
theorem dX1_longMurmur_21 : decode cX1_longMurmur 21 = .ok (.lushr, 1) := dk_125 (dk_at dksX1_longMurmur_0 21 rfl rfl)
theorem dX1_longMurmur_22 : decode cX1_longMurmur 22 = .ok (.lxor, 1) := dk_131 (dk_at dksX1_longMurmur_0 22 rfl rfl)
theorem dX1_longMurmur_23 : decode cX1_longMurmur 23 = .ok (.ldc2_w 36, 3) := dk_20 0 36 (dk_at dksX1_longMurmur_1 0 rfl rfl)
theorem dX1_longMurmur_26 : decode cX1_longMurmur 26 = .ok (.lmul, 1) := dk_105 (dk_at dksX1_longMurmur_1 3 rfl rfl)
theorem dX1_longMurmur_27 : decode cX1_longMurmur 27 = .ok (.lstore_n 3, 1) := dk_66 (dk_at dksX1_longMurmur_1 4 rfl rfl)
theorem dX1_longMurmur_28 : decode cX1_longMurmur 28 = .ok (.lload_n 3, 1) := dk_33 (dk_at dksX1_longMurmur_1 5 rfl rfl)
theorem dX1_longMurmur_29 : decode cX1_longMurmur 29 = .ok (.lload_n 3, 1) := dk_33 (dk_at dksX1_longMurmur_1 6 rfl rfl)
theorem dX1_longMurmur_30 : decode cX1_longMurmur 30 = .ok (.bipush 33, 2) := dk_16 33 (dk_at dksX1_longMurmur_1 7 rfl rfl)
theorem dX1_longMurmur_32 : decode cX1_longMurmur 32 = .ok (.lushr, 1) := dk_125 (dk_at dksX1_longMurmur_1 9 rfl rfl)
theorem dX1_longMurmur_33 : decode cX1_longMurmur 33 = .ok (.lxor, 1) := dk_131 (dk_at dksX1_longMurmur_1 10 rfl rfl)
theorem dX1_longMurmur_34 : decode cX1_longMurmur 34 = .ok (.lreturn, 1) := dk_173 (dk_at dksX1_longMurmur_1 11 rfl rfl)
abbrev cX1_power : ByteArray := prog_4_method_11_code
def yX1_power : MethodName := ⟨RX1, "power", "(I)I"⟩
def dkwX1_power_0 : List UInt8 := [4, 61, 28, 27, 18, 38, 126, 162, 0, 10, 28, 28, 96, 61, 167, 255, 244, 28, 172]
abbrev dktX1_power_0 : List UInt8 := dkwX1_power_0 ++ []
theorem dksX1_power_0 : cX1_power.data.toList.drop 0 = dktX1_power_0 := by decide +kernel
theorem dX1_power_0 : decode cX1_power 0 = .ok (.iconst 1, 1) := dk_4 (dk_at dksX1_power_0 0 rfl rfl)
theorem dX1_power_1 : decode cX1_power 1 = .ok (.istore_n 2, 1) := dk_61 (dk_at dksX1_power_0 1 rfl rfl)
theorem dX1_power_2 : decode cX1_power 2 = .ok (.iload_n 2, 1) := dk_28 (dk_at dksX1_power_0 2 rfl rfl)
theorem dX1_power_3 : decode cX1_power 3 = .ok (.iload_n 1, 1) := dk_27 (dk_at dksX1_power_0 3 rfl rfl)
theorem dX1_power_4 : decode cX1_power 4 = .ok (.ldc 38, 2) := dk_18 38 (dk_at dksX1_power_0 4 rfl rfl)
theorem dX1_power_6 : decode cX1_power 6 = .ok (.iand, 1) := dk_126 (dk_at dksX1_power_0 6 rfl rfl)
theorem dX1_power_7 : decode cX1_power 7 = .ok (.if_icmp .ge 10, 3) := dk_162 0 10 (dk_at dksX1_power_0 7 rfl rfl)
theorem dX1_power_10 : decode cX1_power 10 = .ok (.iload_n 2, 1) := dk_28 (dk_at dksX1_power_0 10 rfl rfl)
theorem dX1_power_11 : decode cX1_power 11 = .ok (.iload_n 2, 1) := dk_28 (dk_at dksX1_power_0 11 rfl rfl)
theorem dX1_power_12 : decode cX1_power 12 = .ok (.iadd, 1) := dk_96 (dk_at dksX1_power_0 12 rfl rfl)
theorem dX1_power_13 : decode cX1_power 13 = .ok (.istore_n 2, 1) := dk_61 (dk_at dksX1_power_0 13 rfl rfl)
theorem dX1_power_14 : decode cX1_power 14 = .ok (.goto (-12), 3) := dk_167 255 244 (dk_at dksX1_power_0 14 rfl rfl)
theorem dX1_power_17 : decode cX1_power 17 = .ok (.iload_n 2, 1) := dk_28 (dk_at dksX1_power_0 17 rfl rfl)
theorem dX1_power_18 : decode cX1_power 18 = .ok (.ireturn, 1) := dk_172 (dk_at dksX1_power_0 18 rfl rfl)
abbrev cX1_longPower : ByteArray := prog_4_method_12_code
def yX1_longPower : MethodName := ⟨RX1, "longPower", "(II)J"⟩
def dkwX1_longPower_1 : List UInt8 := [97, 55, 5, 167, 255, 242, 22, 5, 173]
abbrev dktX1_longPower_1 : List UInt8 := dkwX1_longPower_1 ++ []
def dkwX1_longPower_0 : List UInt8 := [27, 28, 184, 0, 26, 20, 0, 39, 127, 66, 10, 55, 5, 22, 5, 33, 148, 156, 0, 13, 22, 5, 22, 5]
abbrev dktX1_longPower_0 : List UInt8 := dkwX1_longPower_0 ++ dktX1_longPower_1
theorem dksX1_longPower_0 : cX1_longPower.data.toList.drop 0 = dktX1_longPower_0 := by decide +kernel
theorem dksX1_longPower_1 : cX1_longPower.data.toList.drop 24 = dktX1_longPower_1 := dk_seg dksX1_longPower_0 24 rfl rfl
theorem dX1_longPower_0 : decode cX1_longPower 0 = .ok (.iload_n 1, 1) := dk_27 (dk_at dksX1_longPower_0 0 rfl rfl)
theorem dX1_longPower_1 : decode cX1_longPower 1 = .ok (.iload_n 2, 1) := dk_28 (dk_at dksX1_longPower_0 1 rfl rfl)
theorem dX1_longPower_2 : decode cX1_longPower 2 = .ok (.invokestatic 26, 3) := dk_184 0 26 (dk_at dksX1_longPower_0 2 rfl rfl)
theorem dX1_longPower_5 : decode cX1_longPower 5 = .ok (.ldc2_w 39, 3) := dk_20 0 39 (dk_at dksX1_longPower_0 5 rfl rfl)
theorem dX1_longPower_8 : decode cX1_longPower 8 = .ok (.land, 1) := dk_127 (dk_at dksX1_longPower_0 8 rfl rfl)
theorem dX1_longPower_9 : decode cX1_longPower 9 = .ok (.lstore_n 3, 1) := dk_66 (dk_at dksX1_longPower_0 9 rfl rfl)
theorem dX1_longPower_10 : decode cX1_longPower 10 = .ok (.lconst 1, 1) := dk_10 (dk_at dksX1_longPower_0 10 rfl rfl)
theorem dX1_longPower_11 : decode cX1_longPower 11 = .ok (.lstore 5, 2) := dk_55 5 (dk_at dksX1_longPower_0 11 rfl rfl)
theorem dX1_longPower_13 : decode cX1_longPower 13 = .ok (.lload 5, 2) := dk_22 5 (dk_at dksX1_longPower_0 13 rfl rfl)
theorem dX1_longPower_15 : decode cX1_longPower 15 = .ok (.lload_n 3, 1) := dk_33 (dk_at dksX1_longPower_0 15 rfl rfl)
theorem dX1_longPower_16 : decode cX1_longPower 16 = .ok (.lcmp, 1) := dk_148 (dk_at dksX1_longPower_0 16 rfl rfl)
theorem dX1_longPower_17 : decode cX1_longPower 17 = .ok (.ifCond .ge 13, 3) := dk_156 0 13 (dk_at dksX1_longPower_0 17 rfl rfl)
theorem dX1_longPower_20 : decode cX1_longPower 20 = .ok (.lload 5, 2) := dk_22 5 (dk_at dksX1_longPower_0 20 rfl rfl)
theorem dX1_longPower_22 : decode cX1_longPower 22 = .ok (.lload 5, 2) := dk_22 5 (dk_at dksX1_longPower_0 22 rfl rfl)
theorem dX1_longPower_24 : decode cX1_longPower 24 = .ok (.ladd, 1) := dk_97 (dk_at dksX1_longPower_1 0 rfl rfl)
theorem dX1_longPower_25 : decode cX1_longPower 25 = .ok (.lstore 5, 2) := dk_55 5 (dk_at dksX1_longPower_1 1 rfl rfl)
theorem dX1_longPower_27 : decode cX1_longPower 27 = .ok (.goto (-14), 3) := dk_167 255 242 (dk_at dksX1_longPower_1 3 rfl rfl)
theorem dX1_longPower_30 : decode cX1_longPower 30 = .ok (.lload 5, 2) := dk_22 5 (dk_at dksX1_longPower_1 6 rfl rfl)
theorem dX1_longPower_32 : decode cX1_longPower 32 = .ok (.lreturn, 1) := dk_173 (dk_at dksX1_longPower_1 8 rfl rfl)
theorem q2 : (Jvm.Cond.initialized "MixDeskModel") ∈ lw_all := lw_g (lw_at lw_m0 2 rfl) rfl
theorem q95 : (Jvm.Cond.instantiable "MixDeskModel" (0 : Nat)) ∈ lw_all := lw_g (lw_at lw_m0 95 rfl) rfl
theorem q97 : (Jvm.Cond.instanceMethod ({ cls := "MixDeskModel", name := "<init>", desc := "()V" } : Jvm.MethodName)) ∈ lw_all := lw_g (lw_at lw_m0 97 rfl) rfl
theorem q98 : (Jvm.Cond.code ({ cls := "MixDeskModel", name := "<init>", desc := "()V" } : Jvm.MethodName) prog_4_method_1_code (1 : Nat) (Option.none : Option Jvm.ClassFile.FieldType)) ∈ lw_all := lw_g (lw_at lw_m0 98 rfl) rfl
theorem q99 : (Jvm.Cond.methodLink "MixDeskModel" (1 : Nat) ({ cls := "java/lang/Object", name := "<init>", desc := "()V" } : Jvm.MethodName)) ∈ lw_all := lw_g (lw_at lw_m0 99 rfl) rfl
theorem q100 : (Jvm.Cond.superclass "MixDeskModel" "java/lang/Object") ∈ lw_all := lw_g (lw_at lw_m0 100 rfl) rfl
theorem q102 : (Jvm.Cond.instanceMethod ({ cls := "MixDeskModel", name := "mix", desc := "(I)I" } : Jvm.MethodName)) ∈ lw_all := lw_g (lw_at lw_m0 102 rfl) rfl
theorem q103 : (Jvm.Cond.selects "MixDeskModel" ({ cls := "MixDeskModel", name := "mix", desc := "(I)I" } : Jvm.MethodName) ({ cls := "MixDeskModel", name := "mix", desc := "(I)I" } : Jvm.MethodName)) ∈ lw_all := lw_g (lw_at lw_m0 103 rfl) rfl
theorem q104 : (Jvm.Cond.code ({ cls := "MixDeskModel", name := "mix", desc := "(I)I" } : Jvm.MethodName) prog_4_method_5_code (3 : Nat) (Option.some Jvm.ClassFile.FieldType.int)) ∈ lw_all := lw_g (lw_at lw_m0 104 rfl) rfl
theorem q105 : (Jvm.Cond.constant "MixDeskModel" (15 : Nat) (-1640531527 : Int32)) ∈ lw_all := lw_g (lw_at lw_m0 105 rfl) rfl
theorem q107 : (Jvm.Cond.instanceMethod ({ cls := "MixDeskModel", name := "back", desc := "(I)I" } : Jvm.MethodName)) ∈ lw_all := lw_g (lw_at lw_m0 107 rfl) rfl
theorem q108 : (Jvm.Cond.selects "MixDeskModel" ({ cls := "MixDeskModel", name := "back", desc := "(I)I" } : Jvm.MethodName) ({ cls := "MixDeskModel", name := "back", desc := "(I)I" } : Jvm.MethodName)) ∈ lw_all := lw_g (lw_at lw_m0 108 rfl) rfl
theorem q109 : (Jvm.Cond.code ({ cls := "MixDeskModel", name := "back", desc := "(I)I" } : Jvm.MethodName) prog_4_method_6_code (3 : Nat) (Option.some Jvm.ClassFile.FieldType.int)) ∈ lw_all := lw_g (lw_at lw_m0 109 rfl) rfl
theorem q110 : (Jvm.Cond.constantLong "MixDeskModel" (9 : Nat) (4294967295 : Int64)) ∈ lw_all := lw_g (lw_at lw_m0 110 rfl) rfl
theorem q111 : (Jvm.Cond.methodLink "MixDeskModel" (16 : Nat) ({ cls := "MixDeskModel", name := "unshifted", desc := "(JII)J" } : Jvm.MethodName)) ∈ lw_all := lw_g (lw_at lw_m0 111 rfl) rfl
theorem q112 : (Jvm.Cond.static ({ cls := "MixDeskModel", name := "unshifted", desc := "(JII)J" } : Jvm.MethodName)) ∈ lw_all := lw_g (lw_at lw_m0 112 rfl) rfl
theorem q113 : (Jvm.Cond.code ({ cls := "MixDeskModel", name := "unshifted", desc := "(JII)J" } : Jvm.MethodName) prog_4_method_4_code (7 : Nat) (Option.some Jvm.ClassFile.FieldType.long)) ∈ lw_all := lw_g (lw_at lw_m0 113 rfl) rfl
theorem q114 : (Jvm.Cond.constantLong "MixDeskModel" (20 : Nat) (-1640531527 : Int64)) ∈ lw_all := lw_g (lw_at lw_m0 114 rfl) rfl
theorem q115 : (Jvm.Cond.methodLink "MixDeskModel" (22 : Nat) ({ cls := "MixDeskModel", name := "inverse", desc := "(J)J" } : Jvm.MethodName)) ∈ lw_all := lw_g (lw_at lw_m0 115 rfl) rfl
theorem q116 : (Jvm.Cond.static ({ cls := "MixDeskModel", name := "inverse", desc := "(J)J" } : Jvm.MethodName)) ∈ lw_all := lw_g (lw_at lw_m0 116 rfl) rfl
theorem q117 : (Jvm.Cond.code ({ cls := "MixDeskModel", name := "inverse", desc := "(J)J" } : Jvm.MethodName) prog_4_method_3_code (5 : Nat) (Option.some Jvm.ClassFile.FieldType.long)) ∈ lw_all := lw_g (lw_at lw_m0 117 rfl) rfl
theorem q118 : (Jvm.Cond.constantLong "MixDeskModel" (11 : Nat) (2 : Int64)) ∈ lw_all := lw_g (lw_at lw_m0 118 rfl) rfl
theorem q120 : (Jvm.Cond.instanceMethod ({ cls := "MixDeskModel", name := "longMix", desc := "(II)J" } : Jvm.MethodName)) ∈ lw_all := lw_g (lw_at lw_m0 120 rfl) rfl
theorem q121 : (Jvm.Cond.selects "MixDeskModel" ({ cls := "MixDeskModel", name := "longMix", desc := "(II)J" } : Jvm.MethodName) ({ cls := "MixDeskModel", name := "longMix", desc := "(II)J" } : Jvm.MethodName)) ∈ lw_all := lw_g (lw_at lw_m0 121 rfl) rfl
theorem q122 : (Jvm.Cond.code ({ cls := "MixDeskModel", name := "longMix", desc := "(II)J" } : Jvm.MethodName) prog_4_method_7_code (5 : Nat) (Option.some Jvm.ClassFile.FieldType.long)) ∈ lw_all := lw_g (lw_at lw_m0 122 rfl) rfl
theorem q123 : (Jvm.Cond.methodLink "MixDeskModel" (26 : Nat) ({ cls := "MixDeskModel", name := "wide", desc := "(II)J" } : Jvm.MethodName)) ∈ lw_all := lw_g (lw_at lw_m0 123 rfl) rfl
theorem q124 : (Jvm.Cond.static ({ cls := "MixDeskModel", name := "wide", desc := "(II)J" } : Jvm.MethodName)) ∈ lw_all := lw_g (lw_at lw_m0 124 rfl) rfl
theorem q125 : (Jvm.Cond.code ({ cls := "MixDeskModel", name := "wide", desc := "(II)J" } : Jvm.MethodName) prog_4_method_2_code (4 : Nat) (Option.some Jvm.ClassFile.FieldType.long)) ∈ lw_all := lw_g (lw_at lw_m0 125 rfl) rfl
theorem q126 : (Jvm.Cond.constantLong "MixDeskModel" (7 : Nat) (4294967296 : Int64)) ∈ lw_all := lw_g (lw_at lw_m0 126 rfl) rfl
theorem q127 : (Jvm.Cond.constantLong "MixDeskModel" (30 : Nat) (-7046029254386353131 : Int64)) ∈ lw_all := lw_g (lw_at lw_m0 127 rfl) rfl
theorem q129 : (Jvm.Cond.instanceMethod ({ cls := "MixDeskModel", name := "longBack", desc := "(II)J" } : Jvm.MethodName)) ∈ lw_all := lw_g (lw_at lw_m0 129 rfl) rfl
theorem q130 : (Jvm.Cond.selects "MixDeskModel" ({ cls := "MixDeskModel", name := "longBack", desc := "(II)J" } : Jvm.MethodName) ({ cls := "MixDeskModel", name := "longBack", desc := "(II)J" } : Jvm.MethodName)) ∈ lw_all := lw_g (lw_at lw_m0 130 rfl) rfl
theorem q131 : (Jvm.Cond.code ({ cls := "MixDeskModel", name := "longBack", desc := "(II)J" } : Jvm.MethodName) prog_4_method_8_code (5 : Nat) (Option.some Jvm.ClassFile.FieldType.long)) ∈ lw_all := lw_g (lw_at lw_m0 131 rfl) rfl
theorem q133 : (Jvm.Cond.instanceMethod ({ cls := "MixDeskModel", name := "murmur", desc := "(I)I" } : Jvm.MethodName)) ∈ lw_all := lw_g (lw_at lw_m0 133 rfl) rfl
theorem q134 : (Jvm.Cond.selects "MixDeskModel" ({ cls := "MixDeskModel", name := "murmur", desc := "(I)I" } : Jvm.MethodName) ({ cls := "MixDeskModel", name := "murmur", desc := "(I)I" } : Jvm.MethodName)) ∈ lw_all := lw_g (lw_at lw_m0 134 rfl) rfl
theorem q135 : (Jvm.Cond.code ({ cls := "MixDeskModel", name := "murmur", desc := "(I)I" } : Jvm.MethodName) prog_4_method_9_code (3 : Nat) (Option.some Jvm.ClassFile.FieldType.int)) ∈ lw_all := lw_g (lw_at lw_m0 135 rfl) rfl
theorem q136 : (Jvm.Cond.constant "MixDeskModel" (32 : Nat) (-2048144789 : Int32)) ∈ lw_all := lw_g (lw_at lw_m0 136 rfl) rfl
theorem q137 : (Jvm.Cond.constant "MixDeskModel" (33 : Nat) (-1028477387 : Int32)) ∈ lw_all := lw_g (lw_at lw_m0 137 rfl) rfl
theorem q139 : (Jvm.Cond.instanceMethod ({ cls := "MixDeskModel", name := "longMurmur", desc := "(II)J" } : Jvm.MethodName)) ∈ lw_all := lw_g (lw_at lw_m0 139 rfl) rfl
theorem q140 : (Jvm.Cond.selects "MixDeskModel" ({ cls := "MixDeskModel", name := "longMurmur", desc := "(II)J" } : Jvm.MethodName) ({ cls := "MixDeskModel", name := "longMurmur", desc := "(II)J" } : Jvm.MethodName)) ∈ lw_all := lw_g (lw_at lw_m0 140 rfl) rfl
theorem q141 : (Jvm.Cond.code ({ cls := "MixDeskModel", name := "longMurmur", desc := "(II)J" } : Jvm.MethodName) prog_4_method_10_code (5 : Nat) (Option.some Jvm.ClassFile.FieldType.long)) ∈ lw_all := lw_g (lw_at lw_m0 141 rfl) rfl
theorem q142 : (Jvm.Cond.constantLong "MixDeskModel" (34 : Nat) (-49064778989728563 : Int64)) ∈ lw_all := lw_g (lw_at lw_m0 142 rfl) rfl
theorem q143 : (Jvm.Cond.constantLong "MixDeskModel" (36 : Nat) (-4265267296055464877 : Int64)) ∈ lw_all := lw_g (lw_at lw_m0 143 rfl) rfl
theorem q145 : (Jvm.Cond.instanceMethod ({ cls := "MixDeskModel", name := "power", desc := "(I)I" } : Jvm.MethodName)) ∈ lw_all := lw_g (lw_at lw_m0 145 rfl) rfl
theorem q146 : (Jvm.Cond.selects "MixDeskModel" ({ cls := "MixDeskModel", name := "power", desc := "(I)I" } : Jvm.MethodName) ({ cls := "MixDeskModel", name := "power", desc := "(I)I" } : Jvm.MethodName)) ∈ lw_all := lw_g (lw_at lw_m0 146 rfl) rfl
theorem q147 : (Jvm.Cond.code ({ cls := "MixDeskModel", name := "power", desc := "(I)I" } : Jvm.MethodName) prog_4_method_11_code (3 : Nat) (Option.some Jvm.ClassFile.FieldType.int)) ∈ lw_all := lw_g (lw_at lw_m0 147 rfl) rfl
theorem q148 : (Jvm.Cond.constant "MixDeskModel" (38 : Nat) (1073741823 : Int32)) ∈ lw_all := lw_g (lw_at lw_m0 148 rfl) rfl
theorem q150 : (Jvm.Cond.instanceMethod ({ cls := "MixDeskModel", name := "longPower", desc := "(II)J" } : Jvm.MethodName)) ∈ lw_all := lw_g (lw_at lw_m0 150 rfl) rfl
theorem q151 : (Jvm.Cond.selects "MixDeskModel" ({ cls := "MixDeskModel", name := "longPower", desc := "(II)J" } : Jvm.MethodName) ({ cls := "MixDeskModel", name := "longPower", desc := "(II)J" } : Jvm.MethodName)) ∈ lw_all := lw_g (lw_at lw_m0 151 rfl) rfl
theorem q152 : (Jvm.Cond.code ({ cls := "MixDeskModel", name := "longPower", desc := "(II)J" } : Jvm.MethodName) prog_4_method_12_code (7 : Nat) (Option.some Jvm.ClassFile.FieldType.long)) ∈ lw_all := lw_g (lw_at lw_m0 152 rfl) rfl
theorem q153 : (Jvm.Cond.constantLong "MixDeskModel" (39 : Nat) (4611686018427387903 : Int64)) ∈ lw_all := lw_g (lw_at lw_m0 153 rfl) rfl
/-! HashCommon -/
set_option maxRecDepth 100000
def RX2 : String := "HashCommon"
abbrev cX2_mix : ByteArray := prog_1_method_3_code
def yX2_mix : MethodName := ⟨RX2, "mix", "(I)I"⟩
def dkwX2_mix_0 : List UInt8 := [26, 18, 9, 104, 60, 27, 27, 16, 16, 124, 130, 172]
abbrev dktX2_mix_0 : List UInt8 := dkwX2_mix_0 ++ []
theorem dksX2_mix_0 : cX2_mix.data.toList.drop 0 = dktX2_mix_0 := by decide +kernel
theorem dX2_mix_0 : decode cX2_mix 0 = .ok (.iload_n 0, 1) := dk_26 (dk_at dksX2_mix_0 0 rfl rfl)
theorem dX2_mix_1 : decode cX2_mix 1 = .ok (.ldc 9, 2) := dk_18 9 (dk_at dksX2_mix_0 1 rfl rfl)
theorem dX2_mix_3 : decode cX2_mix 3 = .ok (.imul, 1) := dk_104 (dk_at dksX2_mix_0 3 rfl rfl)
theorem dX2_mix_4 : decode cX2_mix 4 = .ok (.istore_n 1, 1) := dk_60 (dk_at dksX2_mix_0 4 rfl rfl)
theorem dX2_mix_5 : decode cX2_mix 5 = .ok (.iload_n 1, 1) := dk_27 (dk_at dksX2_mix_0 5 rfl rfl)
theorem dX2_mix_6 : decode cX2_mix 6 = .ok (.iload_n 1, 1) := dk_27 (dk_at dksX2_mix_0 6 rfl rfl)
theorem dX2_mix_7 : decode cX2_mix 7 = .ok (.bipush 16, 2) := dk_16 16 (dk_at dksX2_mix_0 7 rfl rfl)
theorem dX2_mix_9 : decode cX2_mix 9 = .ok (.iushr, 1) := dk_124 (dk_at dksX2_mix_0 9 rfl rfl)
theorem dX2_mix_10 : decode cX2_mix 10 = .ok (.ixor, 1) := dk_130 (dk_at dksX2_mix_0 10 rfl rfl)
theorem dX2_mix_11 : decode cX2_mix 11 = .ok (.ireturn, 1) := dk_172 (dk_at dksX2_mix_0 11 rfl rfl)
abbrev cX2_invMix : ByteArray := prog_1_method_4_code
def yX2_invMix : MethodName := ⟨RX2, "invMix", "(I)I"⟩
def dkwX2_invMix_0 : List UInt8 := [26, 26, 16, 16, 124, 130, 18, 10, 104, 172]
abbrev dktX2_invMix_0 : List UInt8 := dkwX2_invMix_0 ++ []
theorem dksX2_invMix_0 : cX2_invMix.data.toList.drop 0 = dktX2_invMix_0 := by decide +kernel
theorem dX2_invMix_0 : decode cX2_invMix 0 = .ok (.iload_n 0, 1) := dk_26 (dk_at dksX2_invMix_0 0 rfl rfl)
theorem dX2_invMix_1 : decode cX2_invMix 1 = .ok (.iload_n 0, 1) := dk_26 (dk_at dksX2_invMix_0 1 rfl rfl)
theorem dX2_invMix_2 : decode cX2_invMix 2 = .ok (.bipush 16, 2) := dk_16 16 (dk_at dksX2_invMix_0 2 rfl rfl)
theorem dX2_invMix_4 : decode cX2_invMix 4 = .ok (.iushr, 1) := dk_124 (dk_at dksX2_invMix_0 4 rfl rfl)
theorem dX2_invMix_5 : decode cX2_invMix 5 = .ok (.ixor, 1) := dk_130 (dk_at dksX2_invMix_0 5 rfl rfl)
theorem dX2_invMix_6 : decode cX2_invMix 6 = .ok (.ldc 10, 2) := dk_18 10 (dk_at dksX2_invMix_0 6 rfl rfl)
theorem dX2_invMix_8 : decode cX2_invMix 8 = .ok (.imul, 1) := dk_104 (dk_at dksX2_invMix_0 8 rfl rfl)
theorem dX2_invMix_9 : decode cX2_invMix 9 = .ok (.ireturn, 1) := dk_172 (dk_at dksX2_invMix_0 9 rfl rfl)
abbrev cX2_mix_2 : ByteArray := prog_1_method_5_code
def yX2_mix_2 : MethodName := ⟨RX2, "mix", "(J)J"⟩
def dkwX2_mix_2_0 : List UInt8 := [30, 20, 0, 11, 105, 65, 32, 32, 16, 32, 125, 131, 65, 32, 32, 16, 16, 125, 131, 173]
abbrev dktX2_mix_2_0 : List UInt8 := dkwX2_mix_2_0 ++ []
theorem dksX2_mix_2_0 : cX2_mix_2.data.toList.drop 0 = dktX2_mix_2_0 := by decide +kernel
theorem dX2_mix_2_0 : decode cX2_mix_2 0 = .ok (.lload_n 0, 1) := dk_30 (dk_at dksX2_mix_2_0 0 rfl rfl)
theorem dX2_mix_2_1 : decode cX2_mix_2 1 = .ok (.ldc2_w 11, 3) := dk_20 0 11 (dk_at dksX2_mix_2_0 1 rfl rfl)
theorem dX2_mix_2_4 : decode cX2_mix_2 4 = .ok (.lmul, 1) := dk_105 (dk_at dksX2_mix_2_0 4 rfl rfl)
theorem dX2_mix_2_5 : decode cX2_mix_2 5 = .ok (.lstore_n 2, 1) := dk_65 (dk_at dksX2_mix_2_0 5 rfl rfl)
theorem dX2_mix_2_6 : decode cX2_mix_2 6 = .ok (.lload_n 2, 1) := dk_32 (dk_at dksX2_mix_2_0 6 rfl rfl)
theorem dX2_mix_2_7 : decode cX2_mix_2 7 = .ok (.lload_n 2, 1) := dk_32 (dk_at dksX2_mix_2_0 7 rfl rfl)
theorem dX2_mix_2_8 : decode cX2_mix_2 8 = .ok (.bipush 32, 2) := dk_16 32 (dk_at dksX2_mix_2_0 8 rfl rfl)
theorem dX2_mix_2_10 : decode cX2_mix_2 10 = .ok (.lushr, 1) := dk_125 (dk_at dksX2_mix_2_0 10 rfl rfl)
theorem dX2_mix_2_11 : decode cX2_mix_2 11 = .ok (.lxor, 1) := dk_131 (dk_at dksX2_mix_2_0 11 rfl rfl)
theorem dX2_mix_2_12 : decode cX2_mix_2 12 = .ok (.lstore_n 2, 1) := dk_65 (dk_at dksX2_mix_2_0 12 rfl rfl)
theorem dX2_mix_2_13 : decode cX2_mix_2 13 = .ok (.lload_n 2, 1) := dk_32 (dk_at dksX2_mix_2_0 13 rfl rfl)
theorem dX2_mix_2_14 : decode cX2_mix_2 14 = .ok (.lload_n 2, 1) := dk_32 (dk_at dksX2_mix_2_0 14 rfl rfl)
theorem dX2_mix_2_15 : decode cX2_mix_2 15 = .ok (.bipush 16, 2) := dk_16 16 (dk_at dksX2_mix_2_0 15 rfl rfl)
theorem dX2_mix_2_17 : decode cX2_mix_2 17 = .ok (.lushr, 1) := dk_125 (dk_at dksX2_mix_2_0 17 rfl rfl)
theorem dX2_mix_2_18 : decode cX2_mix_2 18 = .ok (.lxor, 1) := dk_131 (dk_at dksX2_mix_2_0 18 rfl rfl)
theorem dX2_mix_2_19 : decode cX2_mix_2 19 = .ok (.lreturn, 1) := dk_173 (dk_at dksX2_mix_2_0 19 rfl rfl)
abbrev cX2_invMix_2 : ByteArray := prog_1_method_6_code
def yX2_invMix_2 : MethodName := ⟨RX2, "invMix", "(J)J"⟩
def dkwX2_invMix_2_1 : List UInt8 := [173]
abbrev dktX2_invMix_2_1 : List UInt8 := dkwX2_invMix_2_1 ++ []
def dkwX2_invMix_2_0 : List UInt8 := [30, 30, 16, 32, 125, 131, 63, 30, 30, 16, 16, 125, 131, 63, 30, 30, 16, 32, 125, 131, 20, 0, 13, 105]
abbrev dktX2_invMix_2_0 : List UInt8 := dkwX2_invMix_2_0 ++ dktX2_invMix_2_1
theorem dksX2_invMix_2_0 : cX2_invMix_2.data.toList.drop 0 = dktX2_invMix_2_0 := by decide +kernel
theorem dksX2_invMix_2_1 : cX2_invMix_2.data.toList.drop 24 = dktX2_invMix_2_1 := dk_seg dksX2_invMix_2_0 24 rfl rfl
theorem dX2_invMix_2_0 : decode cX2_invMix_2 0 = .ok (.lload_n 0, 1) := dk_30 (dk_at dksX2_invMix_2_0 0 rfl rfl)
theorem dX2_invMix_2_1 : decode cX2_invMix_2 1 = .ok (.lload_n 0, 1) := dk_30 (dk_at dksX2_invMix_2_0 1 rfl rfl)
theorem dX2_invMix_2_2 : decode cX2_invMix_2 2 = .ok (.bipush 32, 2) := dk_16 32 (dk_at dksX2_invMix_2_0 2 rfl rfl)
theorem dX2_invMix_2_4 : decode cX2_invMix_2 4 = .ok (.lushr, 1) := dk_125 (dk_at dksX2_invMix_2_0 4 rfl rfl)
theorem dX2_invMix_2_5 : decode cX2_invMix_2 5 = .ok (.lxor, 1) := dk_131 (dk_at dksX2_invMix_2_0 5 rfl rfl)
theorem dX2_invMix_2_6 : decode cX2_invMix_2 6 = .ok (.lstore_n 0, 1) := dk_63 (dk_at dksX2_invMix_2_0 6 rfl rfl)
theorem dX2_invMix_2_7 : decode cX2_invMix_2 7 = .ok (.lload_n 0, 1) := dk_30 (dk_at dksX2_invMix_2_0 7 rfl rfl)
theorem dX2_invMix_2_8 : decode cX2_invMix_2 8 = .ok (.lload_n 0, 1) := dk_30 (dk_at dksX2_invMix_2_0 8 rfl rfl)
theorem dX2_invMix_2_9 : decode cX2_invMix_2 9 = .ok (.bipush 16, 2) := dk_16 16 (dk_at dksX2_invMix_2_0 9 rfl rfl)
theorem dX2_invMix_2_11 : decode cX2_invMix_2 11 = .ok (.lushr, 1) := dk_125 (dk_at dksX2_invMix_2_0 11 rfl rfl)
theorem dX2_invMix_2_12 : decode cX2_invMix_2 12 = .ok (.lxor, 1) := dk_131 (dk_at dksX2_invMix_2_0 12 rfl rfl)
theorem dX2_invMix_2_13 : decode cX2_invMix_2 13 = .ok (.lstore_n 0, 1) := dk_63 (dk_at dksX2_invMix_2_0 13 rfl rfl)
theorem dX2_invMix_2_14 : decode cX2_invMix_2 14 = .ok (.lload_n 0, 1) := dk_30 (dk_at dksX2_invMix_2_0 14 rfl rfl)
theorem dX2_invMix_2_15 : decode cX2_invMix_2 15 = .ok (.lload_n 0, 1) := dk_30 (dk_at dksX2_invMix_2_0 15 rfl rfl)
theorem dX2_invMix_2_16 : decode cX2_invMix_2 16 = .ok (.bipush 32, 2) := dk_16 32 (dk_at dksX2_invMix_2_0 16 rfl rfl)
theorem dX2_invMix_2_18 : decode cX2_invMix_2 18 = .ok (.lushr, 1) := dk_125 (dk_at dksX2_invMix_2_0 18 rfl rfl)
theorem dX2_invMix_2_19 : decode cX2_invMix_2 19 = .ok (.lxor, 1) := dk_131 (dk_at dksX2_invMix_2_0 19 rfl rfl)
theorem dX2_invMix_2_20 : decode cX2_invMix_2 20 = .ok (.ldc2_w 13, 3) := dk_20 0 13 (dk_at dksX2_invMix_2_0 20 rfl rfl)
theorem dX2_invMix_2_23 : decode cX2_invMix_2 23 = .ok (.lmul, 1) := dk_105 (dk_at dksX2_invMix_2_0 23 rfl rfl)
theorem dX2_invMix_2_24 : decode cX2_invMix_2 24 = .ok (.lreturn, 1) := dk_173 (dk_at dksX2_invMix_2_1 0 rfl rfl)
abbrev cX2_murmurHash3 : ByteArray := prog_1_method_1_code
def yX2_murmurHash3 : MethodName := ⟨RX2, "murmurHash3", "(I)I"⟩
def dkwX2_murmurHash3_1 : List UInt8 := [26, 26, 16, 16, 124, 130, 59, 26, 172]
abbrev dktX2_murmurHash3_1 : List UInt8 := dkwX2_murmurHash3_1 ++ []
def dkwX2_murmurHash3_0 : List UInt8 := [26, 26, 16, 16, 124, 130, 59, 26, 18, 1, 104, 59, 26, 26, 16, 13, 124, 130, 59, 26, 18, 2, 104, 59]
abbrev dktX2_murmurHash3_0 : List UInt8 := dkwX2_murmurHash3_0 ++ dktX2_murmurHash3_1
theorem dksX2_murmurHash3_0 : cX2_murmurHash3.data.toList.drop 0 = dktX2_murmurHash3_0 := by decide +kernel
theorem dksX2_murmurHash3_1 : cX2_murmurHash3.data.toList.drop 24 = dktX2_murmurHash3_1 := dk_seg dksX2_murmurHash3_0 24 rfl rfl
theorem dX2_murmurHash3_0 : decode cX2_murmurHash3 0 = .ok (.iload_n 0, 1) := dk_26 (dk_at dksX2_murmurHash3_0 0 rfl rfl)
theorem dX2_murmurHash3_1 : decode cX2_murmurHash3 1 = .ok (.iload_n 0, 1) := dk_26 (dk_at dksX2_murmurHash3_0 1 rfl rfl)
theorem dX2_murmurHash3_2 : decode cX2_murmurHash3 2 = .ok (.bipush 16, 2) := dk_16 16 (dk_at dksX2_murmurHash3_0 2 rfl rfl)
theorem dX2_murmurHash3_4 : decode cX2_murmurHash3 4 = .ok (.iushr, 1) := dk_124 (dk_at dksX2_murmurHash3_0 4 rfl rfl)
theorem dX2_murmurHash3_5 : decode cX2_murmurHash3 5 = .ok (.ixor, 1) := dk_130 (dk_at dksX2_murmurHash3_0 5 rfl rfl)
theorem dX2_murmurHash3_6 : decode cX2_murmurHash3 6 = .ok (.istore_n 0, 1) := dk_59 (dk_at dksX2_murmurHash3_0 6 rfl rfl)
theorem dX2_murmurHash3_7 : decode cX2_murmurHash3 7 = .ok (.iload_n 0, 1) := dk_26 (dk_at dksX2_murmurHash3_0 7 rfl rfl)
theorem dX2_murmurHash3_8 : decode cX2_murmurHash3 8 = .ok (.ldc 1, 2) := dk_18 1 (dk_at dksX2_murmurHash3_0 8 rfl rfl)
theorem dX2_murmurHash3_10 : decode cX2_murmurHash3 10 = .ok (.imul, 1) := dk_104 (dk_at dksX2_murmurHash3_0 10 rfl rfl)
theorem dX2_murmurHash3_11 : decode cX2_murmurHash3 11 = .ok (.istore_n 0, 1) := dk_59 (dk_at dksX2_murmurHash3_0 11 rfl rfl)
theorem dX2_murmurHash3_12 : decode cX2_murmurHash3 12 = .ok (.iload_n 0, 1) := dk_26 (dk_at dksX2_murmurHash3_0 12 rfl rfl)
theorem dX2_murmurHash3_13 : decode cX2_murmurHash3 13 = .ok (.iload_n 0, 1) := dk_26 (dk_at dksX2_murmurHash3_0 13 rfl rfl)
theorem dX2_murmurHash3_14 : decode cX2_murmurHash3 14 = .ok (.bipush 13, 2) := dk_16 13 (dk_at dksX2_murmurHash3_0 14 rfl rfl)
theorem dX2_murmurHash3_16 : decode cX2_murmurHash3 16 = .ok (.iushr, 1) := dk_124 (dk_at dksX2_murmurHash3_0 16 rfl rfl)
theorem dX2_murmurHash3_17 : decode cX2_murmurHash3 17 = .ok (.ixor, 1) := dk_130 (dk_at dksX2_murmurHash3_0 17 rfl rfl)
theorem dX2_murmurHash3_18 : decode cX2_murmurHash3 18 = .ok (.istore_n 0, 1) := dk_59 (dk_at dksX2_murmurHash3_0 18 rfl rfl)
theorem dX2_murmurHash3_19 : decode cX2_murmurHash3 19 = .ok (.iload_n 0, 1) := dk_26 (dk_at dksX2_murmurHash3_0 19 rfl rfl)
theorem dX2_murmurHash3_20 : decode cX2_murmurHash3 20 = .ok (.ldc 2, 2) := dk_18 2 (dk_at dksX2_murmurHash3_0 20 rfl rfl)
theorem dX2_murmurHash3_22 : decode cX2_murmurHash3 22 = .ok (.imul, 1) := dk_104 (dk_at dksX2_murmurHash3_0 22 rfl rfl)
theorem dX2_murmurHash3_23 : decode cX2_murmurHash3 23 = .ok (.istore_n 0, 1) := dk_59 (dk_at dksX2_murmurHash3_0 23 rfl rfl)
theorem dX2_murmurHash3_24 : decode cX2_murmurHash3 24 = .ok (.iload_n 0, 1) := dk_26 (dk_at dksX2_murmurHash3_1 0 rfl rfl)
theorem dX2_murmurHash3_25 : decode cX2_murmurHash3 25 = .ok (.iload_n 0, 1) := dk_26 (dk_at dksX2_murmurHash3_1 1 rfl rfl)
theorem dX2_murmurHash3_26 : decode cX2_murmurHash3 26 = .ok (.bipush 16, 2) := dk_16 16 (dk_at dksX2_murmurHash3_1 2 rfl rfl)
theorem dX2_murmurHash3_28 : decode cX2_murmurHash3 28 = .ok (.iushr, 1) := dk_124 (dk_at dksX2_murmurHash3_1 4 rfl rfl)
theorem dX2_murmurHash3_29 : decode cX2_murmurHash3 29 = .ok (.ixor, 1) := dk_130 (dk_at dksX2_murmurHash3_1 5 rfl rfl)
theorem dX2_murmurHash3_30 : decode cX2_murmurHash3 30 = .ok (.istore_n 0, 1) := dk_59 (dk_at dksX2_murmurHash3_1 6 rfl rfl)
theorem dX2_murmurHash3_31 : decode cX2_murmurHash3 31 = .ok (.iload_n 0, 1) := dk_26 (dk_at dksX2_murmurHash3_1 7 rfl rfl)
theorem dX2_murmurHash3_32 : decode cX2_murmurHash3 32 = .ok (.ireturn, 1) := dk_172 (dk_at dksX2_murmurHash3_1 8 rfl rfl)
abbrev cX2_murmurHash3_2 : ByteArray := prog_1_method_2_code
def yX2_murmurHash3_2 : MethodName := ⟨RX2, "murmurHash3", "(J)J"⟩
def dkwX2_murmurHash3_2_1 : List UInt8 := [105, 63, 30, 30, 16, 33, 125, 131, 63, 30, 173]
abbrev dktX2_murmurHash3_2_1 : List UInt8 := dkwX2_murmurHash3_2_1 ++ []
def dkwX2_murmurHash3_2_0 : List UInt8 := [30, 30, 16, 33, 125, 131, 63, 30, 20, 0, 3, 105, 63, 30, 30, 16, 33, 125, 131, 63, 30, 20, 0, 5]
abbrev dktX2_murmurHash3_2_0 : List UInt8 := dkwX2_murmurHash3_2_0 ++ dktX2_murmurHash3_2_1
theorem dksX2_murmurHash3_2_0 : cX2_murmurHash3_2.data.toList.drop 0 = dktX2_murmurHash3_2_0 := by decide +kernel
theorem dksX2_murmurHash3_2_1 : cX2_murmurHash3_2.data.toList.drop 24 = dktX2_murmurHash3_2_1 := dk_seg dksX2_murmurHash3_2_0 24 rfl rfl
theorem dX2_murmurHash3_2_0 : decode cX2_murmurHash3_2 0 = .ok (.lload_n 0, 1) := dk_30 (dk_at dksX2_murmurHash3_2_0 0 rfl rfl)
theorem dX2_murmurHash3_2_1 : decode cX2_murmurHash3_2 1 = .ok (.lload_n 0, 1) := dk_30 (dk_at dksX2_murmurHash3_2_0 1 rfl rfl)
theorem dX2_murmurHash3_2_2 : decode cX2_murmurHash3_2 2 = .ok (.bipush 33, 2) := dk_16 33 (dk_at dksX2_murmurHash3_2_0 2 rfl rfl)
theorem dX2_murmurHash3_2_4 : decode cX2_murmurHash3_2 4 = .ok (.lushr, 1) := dk_125 (dk_at dksX2_murmurHash3_2_0 4 rfl rfl)
theorem dX2_murmurHash3_2_5 : decode cX2_murmurHash3_2 5 = .ok (.lxor, 1) := dk_131 (dk_at dksX2_murmurHash3_2_0 5 rfl rfl)
theorem dX2_murmurHash3_2_6 : decode cX2_murmurHash3_2 6 = .ok (.lstore_n 0, 1) := dk_63 (dk_at dksX2_murmurHash3_2_0 6 rfl rfl)
theorem dX2_murmurHash3_2_7 : decode cX2_murmurHash3_2 7 = .ok (.lload_n 0, 1) := dk_30 (dk_at dksX2_murmurHash3_2_0 7 rfl rfl)
theorem dX2_murmurHash3_2_8 : decode cX2_murmurHash3_2 8 = .ok (.ldc2_w 3, 3) := dk_20 0 3 (dk_at dksX2_murmurHash3_2_0 8 rfl rfl)
theorem dX2_murmurHash3_2_11 : decode cX2_murmurHash3_2 11 = .ok (.lmul, 1) := dk_105 (dk_at dksX2_murmurHash3_2_0 11 rfl rfl)
theorem dX2_murmurHash3_2_12 : decode cX2_murmurHash3_2 12 = .ok (.lstore_n 0, 1) := dk_63 (dk_at dksX2_murmurHash3_2_0 12 rfl rfl)
theorem dX2_murmurHash3_2_13 : decode cX2_murmurHash3_2 13 = .ok (.lload_n 0, 1) := dk_30 (dk_at dksX2_murmurHash3_2_0 13 rfl rfl)
theorem dX2_murmurHash3_2_14 : decode cX2_murmurHash3_2 14 = .ok (.lload_n 0, 1) := dk_30 (dk_at dksX2_murmurHash3_2_0 14 rfl rfl)
theorem dX2_murmurHash3_2_15 : decode cX2_murmurHash3_2 15 = .ok (.bipush 33, 2) := dk_16 33 (dk_at dksX2_murmurHash3_2_0 15 rfl rfl)
theorem dX2_murmurHash3_2_17 : decode cX2_murmurHash3_2 17 = .ok (.lushr, 1) := dk_125 (dk_at dksX2_murmurHash3_2_0 17 rfl rfl)
theorem dX2_murmurHash3_2_18 : decode cX2_murmurHash3_2 18 = .ok (.lxor, 1) := dk_131 (dk_at dksX2_murmurHash3_2_0 18 rfl rfl)
theorem dX2_murmurHash3_2_19 : decode cX2_murmurHash3_2 19 = .ok (.lstore_n 0, 1) := dk_63 (dk_at dksX2_murmurHash3_2_0 19 rfl rfl)
theorem dX2_murmurHash3_2_20 : decode cX2_murmurHash3_2 20 = .ok (.lload_n 0, 1) := dk_30 (dk_at dksX2_murmurHash3_2_0 20 rfl rfl)
theorem dX2_murmurHash3_2_21 : decode cX2_murmurHash3_2 21 = .ok (.ldc2_w 5, 3) := dk_20 0 5 (dk_at dksX2_murmurHash3_2_0 21 rfl rfl)
theorem dX2_murmurHash3_2_24 : decode cX2_murmurHash3_2 24 = .ok (.lmul, 1) := dk_105 (dk_at dksX2_murmurHash3_2_1 0 rfl rfl)
theorem dX2_murmurHash3_2_25 : decode cX2_murmurHash3_2 25 = .ok (.lstore_n 0, 1) := dk_63 (dk_at dksX2_murmurHash3_2_1 1 rfl rfl)
theorem dX2_murmurHash3_2_26 : decode cX2_murmurHash3_2 26 = .ok (.lload_n 0, 1) := dk_30 (dk_at dksX2_murmurHash3_2_1 2 rfl rfl)
theorem dX2_murmurHash3_2_27 : decode cX2_murmurHash3_2 27 = .ok (.lload_n 0, 1) := dk_30 (dk_at dksX2_murmurHash3_2_1 3 rfl rfl)
theorem dX2_murmurHash3_2_28 : decode cX2_murmurHash3_2 28 = .ok (.bipush 33, 2) := dk_16 33 (dk_at dksX2_murmurHash3_2_1 4 rfl rfl)
theorem dX2_murmurHash3_2_30 : decode cX2_murmurHash3_2 30 = .ok (.lushr, 1) := dk_125 (dk_at dksX2_murmurHash3_2_1 6 rfl rfl)
theorem dX2_murmurHash3_2_31 : decode cX2_murmurHash3_2 31 = .ok (.lxor, 1) := dk_131 (dk_at dksX2_murmurHash3_2_1 7 rfl rfl)
theorem dX2_murmurHash3_2_32 : decode cX2_murmurHash3_2 32 = .ok (.lstore_n 0, 1) := dk_63 (dk_at dksX2_murmurHash3_2_1 8 rfl rfl)
theorem dX2_murmurHash3_2_33 : decode cX2_murmurHash3_2 33 = .ok (.lload_n 0, 1) := dk_30 (dk_at dksX2_murmurHash3_2_1 9 rfl rfl)
theorem dX2_murmurHash3_2_34 : decode cX2_murmurHash3_2 34 = .ok (.lreturn, 1) := dk_173 (dk_at dksX2_murmurHash3_2_1 10 rfl rfl)
abbrev cX2_nextPowerOfTwo : ByteArray := prog_1_method_7_code
def yX2_nextPowerOfTwo : MethodName := ⟨RX2, "nextPowerOfTwo", "(I)I"⟩
def dkwX2_nextPowerOfTwo_0 : List UInt8 := [4, 16, 32, 26, 4, 100, 184, 0, 15, 100, 120, 172]
abbrev dktX2_nextPowerOfTwo_0 : List UInt8 := dkwX2_nextPowerOfTwo_0 ++ []
theorem dksX2_nextPowerOfTwo_0 : cX2_nextPowerOfTwo.data.toList.drop 0 = dktX2_nextPowerOfTwo_0 := by decide +kernel
theorem dX2_nextPowerOfTwo_0 : decode cX2_nextPowerOfTwo 0 = .ok (.iconst 1, 1) := dk_4 (dk_at dksX2_nextPowerOfTwo_0 0 rfl rfl)
theorem dX2_nextPowerOfTwo_1 : decode cX2_nextPowerOfTwo 1 = .ok (.bipush 32, 2) := dk_16 32 (dk_at dksX2_nextPowerOfTwo_0 1 rfl rfl)
theorem dX2_nextPowerOfTwo_3 : decode cX2_nextPowerOfTwo 3 = .ok (.iload_n 0, 1) := dk_26 (dk_at dksX2_nextPowerOfTwo_0 3 rfl rfl)
theorem dX2_nextPowerOfTwo_4 : decode cX2_nextPowerOfTwo 4 = .ok (.iconst 1, 1) := dk_4 (dk_at dksX2_nextPowerOfTwo_0 4 rfl rfl)
theorem dX2_nextPowerOfTwo_5 : decode cX2_nextPowerOfTwo 5 = .ok (.isub, 1) := dk_100 (dk_at dksX2_nextPowerOfTwo_0 5 rfl rfl)
theorem dX2_nextPowerOfTwo_6 : decode cX2_nextPowerOfTwo 6 = .ok (.invokestatic 15, 3) := dk_184 0 15 (dk_at dksX2_nextPowerOfTwo_0 6 rfl rfl)
theorem dX2_nextPowerOfTwo_9 : decode cX2_nextPowerOfTwo 9 = .ok (.isub, 1) := dk_100 (dk_at dksX2_nextPowerOfTwo_0 9 rfl rfl)
theorem dX2_nextPowerOfTwo_10 : decode cX2_nextPowerOfTwo 10 = .ok (.ishl, 1) := dk_120 (dk_at dksX2_nextPowerOfTwo_0 10 rfl rfl)
theorem dX2_nextPowerOfTwo_11 : decode cX2_nextPowerOfTwo 11 = .ok (.ireturn, 1) := dk_172 (dk_at dksX2_nextPowerOfTwo_0 11 rfl rfl)
abbrev cX2_nextPowerOfTwo_2 : ByteArray := prog_1_method_8_code
def yX2_nextPowerOfTwo_2 : MethodName := ⟨RX2, "nextPowerOfTwo", "(J)J"⟩
def dkwX2_nextPowerOfTwo_2_0 : List UInt8 := [10, 16, 64, 30, 10, 101, 184, 0, 21, 100, 121, 173]
abbrev dktX2_nextPowerOfTwo_2_0 : List UInt8 := dkwX2_nextPowerOfTwo_2_0 ++ []
theorem dksX2_nextPowerOfTwo_2_0 : cX2_nextPowerOfTwo_2.data.toList.drop 0 = dktX2_nextPowerOfTwo_2_0 := by decide +kernel
theorem dX2_nextPowerOfTwo_2_0 : decode cX2_nextPowerOfTwo_2 0 = .ok (.lconst 1, 1) := dk_10 (dk_at dksX2_nextPowerOfTwo_2_0 0 rfl rfl)
theorem dX2_nextPowerOfTwo_2_1 : decode cX2_nextPowerOfTwo_2 1 = .ok (.bipush 64, 2) := dk_16 64 (dk_at dksX2_nextPowerOfTwo_2_0 1 rfl rfl)
theorem dX2_nextPowerOfTwo_2_3 : decode cX2_nextPowerOfTwo_2 3 = .ok (.lload_n 0, 1) := dk_30 (dk_at dksX2_nextPowerOfTwo_2_0 3 rfl rfl)
theorem dX2_nextPowerOfTwo_2_4 : decode cX2_nextPowerOfTwo_2 4 = .ok (.lconst 1, 1) := dk_10 (dk_at dksX2_nextPowerOfTwo_2_0 4 rfl rfl)
theorem dX2_nextPowerOfTwo_2_5 : decode cX2_nextPowerOfTwo_2 5 = .ok (.lsub, 1) := dk_101 (dk_at dksX2_nextPowerOfTwo_2_0 5 rfl rfl)
theorem dX2_nextPowerOfTwo_2_6 : decode cX2_nextPowerOfTwo_2 6 = .ok (.invokestatic 21, 3) := dk_184 0 21 (dk_at dksX2_nextPowerOfTwo_2_0 6 rfl rfl)
theorem dX2_nextPowerOfTwo_2_9 : decode cX2_nextPowerOfTwo_2 9 = .ok (.isub, 1) := dk_100 (dk_at dksX2_nextPowerOfTwo_2_0 9 rfl rfl)
theorem dX2_nextPowerOfTwo_2_10 : decode cX2_nextPowerOfTwo_2 10 = .ok (.lshl, 1) := dk_121 (dk_at dksX2_nextPowerOfTwo_2_0 10 rfl rfl)
theorem dX2_nextPowerOfTwo_2_11 : decode cX2_nextPowerOfTwo_2 11 = .ok (.lreturn, 1) := dk_173 (dk_at dksX2_nextPowerOfTwo_2_0 11 rfl rfl)
theorem q3 : (Jvm.Cond.initialized "HashCommon") ∈ lw_all := lw_g (lw_at lw_m0 3 rfl) rfl
theorem q21 : (Jvm.Cond.static ({ cls := "HashCommon", name := "mix", desc := "(I)I" } : Jvm.MethodName)) ∈ lw_all := lw_g (lw_at lw_m0 21 rfl) rfl
theorem q22 : (Jvm.Cond.code ({ cls := "HashCommon", name := "mix", desc := "(I)I" } : Jvm.MethodName) prog_1_method_3_code (2 : Nat) (Option.some Jvm.ClassFile.FieldType.int)) ∈ lw_all := lw_g (lw_at lw_m0 22 rfl) rfl
theorem q23 : (Jvm.Cond.constant "HashCommon" (9 : Nat) (-1640531527 : Int32)) ∈ lw_all := lw_g (lw_at lw_m0 23 rfl) rfl
theorem q29 : (Jvm.Cond.static ({ cls := "HashCommon", name := "invMix", desc := "(I)I" } : Jvm.MethodName)) ∈ lw_all := lw_g (lw_at lw_m0 29 rfl) rfl
theorem q30 : (Jvm.Cond.code ({ cls := "HashCommon", name := "invMix", desc := "(I)I" } : Jvm.MethodName) prog_1_method_4_code (1 : Nat) (Option.some Jvm.ClassFile.FieldType.int)) ∈ lw_all := lw_g (lw_at lw_m0 30 rfl) rfl
theorem q31 : (Jvm.Cond.constant "HashCommon" (10 : Nat) (340573321 : Int32)) ∈ lw_all := lw_g (lw_at lw_m0 31 rfl) rfl
theorem q41 : (Jvm.Cond.static ({ cls := "HashCommon", name := "mix", desc := "(J)J" } : Jvm.MethodName)) ∈ lw_all := lw_g (lw_at lw_m0 41 rfl) rfl
theorem q42 : (Jvm.Cond.code ({ cls := "HashCommon", name := "mix", desc := "(J)J" } : Jvm.MethodName) prog_1_method_5_code (4 : Nat) (Option.some Jvm.ClassFile.FieldType.long)) ∈ lw_all := lw_g (lw_at lw_m0 42 rfl) rfl
theorem q43 : (Jvm.Cond.constantLong "HashCommon" (11 : Nat) (-7046029254386353131 : Int64)) ∈ lw_all := lw_g (lw_at lw_m0 43 rfl) rfl
theorem q49 : (Jvm.Cond.static ({ cls := "HashCommon", name := "invMix", desc := "(J)J" } : Jvm.MethodName)) ∈ lw_all := lw_g (lw_at lw_m0 49 rfl) rfl
theorem q50 : (Jvm.Cond.code ({ cls := "HashCommon", name := "invMix", desc := "(J)J" } : Jvm.MethodName) prog_1_method_6_code (2 : Nat) (Option.some Jvm.ClassFile.FieldType.long)) ∈ lw_all := lw_g (lw_at lw_m0 50 rfl) rfl
theorem q51 : (Jvm.Cond.constantLong "HashCommon" (13 : Nat) (-1018231460777725123 : Int64)) ∈ lw_all := lw_g (lw_at lw_m0 51 rfl) rfl
theorem q57 : (Jvm.Cond.static ({ cls := "HashCommon", name := "murmurHash3", desc := "(I)I" } : Jvm.MethodName)) ∈ lw_all := lw_g (lw_at lw_m0 57 rfl) rfl
theorem q58 : (Jvm.Cond.code ({ cls := "HashCommon", name := "murmurHash3", desc := "(I)I" } : Jvm.MethodName) prog_1_method_1_code (1 : Nat) (Option.some Jvm.ClassFile.FieldType.int)) ∈ lw_all := lw_g (lw_at lw_m0 58 rfl) rfl
theorem q59 : (Jvm.Cond.constant "HashCommon" (1 : Nat) (-2048144789 : Int32)) ∈ lw_all := lw_g (lw_at lw_m0 59 rfl) rfl
theorem q60 : (Jvm.Cond.constant "HashCommon" (2 : Nat) (-1028477387 : Int32)) ∈ lw_all := lw_g (lw_at lw_m0 60 rfl) rfl
theorem q66 : (Jvm.Cond.static ({ cls := "HashCommon", name := "murmurHash3", desc := "(J)J" } : Jvm.MethodName)) ∈ lw_all := lw_g (lw_at lw_m0 66 rfl) rfl
theorem q67 : (Jvm.Cond.code ({ cls := "HashCommon", name := "murmurHash3", desc := "(J)J" } : Jvm.MethodName) prog_1_method_2_code (2 : Nat) (Option.some Jvm.ClassFile.FieldType.long)) ∈ lw_all := lw_g (lw_at lw_m0 67 rfl) rfl
theorem q68 : (Jvm.Cond.constantLong "HashCommon" (3 : Nat) (-49064778989728563 : Int64)) ∈ lw_all := lw_g (lw_at lw_m0 68 rfl) rfl
theorem q69 : (Jvm.Cond.constantLong "HashCommon" (5 : Nat) (-4265267296055464877 : Int64)) ∈ lw_all := lw_g (lw_at lw_m0 69 rfl) rfl
theorem q76 : (Jvm.Cond.static ({ cls := "HashCommon", name := "nextPowerOfTwo", desc := "(I)I" } : Jvm.MethodName)) ∈ lw_all := lw_g (lw_at lw_m0 76 rfl) rfl
theorem q77 : (Jvm.Cond.code ({ cls := "HashCommon", name := "nextPowerOfTwo", desc := "(I)I" } : Jvm.MethodName) prog_1_method_7_code (1 : Nat) (Option.some Jvm.ClassFile.FieldType.int)) ∈ lw_all := lw_g (lw_at lw_m0 77 rfl) rfl
theorem q78 : (Jvm.Cond.methodLink "HashCommon" (15 : Nat) ({ cls := "java/lang/Integer", name := "numberOfLeadingZeros", desc := "(I)I" } : Jvm.MethodName)) ∈ lw_all := lw_g (lw_at lw_m0 78 rfl) rfl
theorem q88 : (Jvm.Cond.static ({ cls := "HashCommon", name := "nextPowerOfTwo", desc := "(J)J" } : Jvm.MethodName)) ∈ lw_all := lw_g (lw_at lw_m0 88 rfl) rfl
theorem q89 : (Jvm.Cond.code ({ cls := "HashCommon", name := "nextPowerOfTwo", desc := "(J)J" } : Jvm.MethodName) prog_1_method_8_code (2 : Nat) (Option.some Jvm.ClassFile.FieldType.long)) ∈ lw_all := lw_g (lw_at lw_m0 89 rfl) rfl
theorem q90 : (Jvm.Cond.methodLink "HashCommon" (21 : Nat) ({ cls := "java/lang/Long", name := "numberOfLeadingZeros", desc := "(J)I" } : Jvm.MethodName)) ∈ lw_all := lw_g (lw_at lw_m0 90 rfl) rfl
/-! java/lang/Integer -/
set_option maxRecDepth 100000
def RJ0 : String := "java/lang/Integer"
abbrev cJ0_numberOfLeadingZeros : ByteArray := prog_5_method_47_code
def yJ0_numberOfLeadingZeros : MethodName := ⟨RJ0, "numberOfLeadingZeros", "(I)I"⟩
def dkwJ0_numberOfLeadingZeros_3 : List UInt8 := [5, 124, 59, 27, 26, 4, 124, 100, 172]
abbrev dktJ0_numberOfLeadingZeros_3 : List UInt8 := dkwJ0_numberOfLeadingZeros_3 ++ []
def dkwJ0_numberOfLeadingZeros_2 : List UInt8 := [124, 59, 26, 16, 16, 161, 0, 10, 132, 1, 252, 26, 7, 124, 59, 26, 7, 161, 0, 10, 132, 1, 254, 26]
abbrev dktJ0_numberOfLeadingZeros_2 : List UInt8 := dkwJ0_numberOfLeadingZeros_2 ++ dktJ0_numberOfLeadingZeros_3
def dkwJ0_numberOfLeadingZeros_1 : List UInt8 := [161, 0, 11, 132, 1, 240, 26, 16, 16, 124, 59, 26, 17, 1, 0, 161, 0, 11, 132, 1, 248, 26, 16, 8]
abbrev dktJ0_numberOfLeadingZeros_1 : List UInt8 := dkwJ0_numberOfLeadingZeros_1 ++ dktJ0_numberOfLeadingZeros_2
def dkwJ0_numberOfLeadingZeros_0 : List UInt8 := [26, 157, 0, 14, 26, 154, 0, 8, 16, 32, 167, 0, 4, 3, 172, 16, 31, 60, 26, 19, 1, 8]
abbrev dktJ0_numberOfLeadingZeros_0 : List UInt8 := dkwJ0_numberOfLeadingZeros_0 ++ dktJ0_numberOfLeadingZeros_1
theorem dksJ0_numberOfLeadingZeros_0 : cJ0_numberOfLeadingZeros.data.toList.drop 0 = dktJ0_numberOfLeadingZeros_0 := by decide +kernel
theorem dksJ0_numberOfLeadingZeros_1 : cJ0_numberOfLeadingZeros.data.toList.drop 22 = dktJ0_numberOfLeadingZeros_1 := dk_seg dksJ0_numberOfLeadingZeros_0 22 rfl rfl
theorem dksJ0_numberOfLeadingZeros_2 : cJ0_numberOfLeadingZeros.data.toList.drop 46 = dktJ0_numberOfLeadingZeros_2 := dk_seg dksJ0_numberOfLeadingZeros_1 24 rfl rfl
theorem dksJ0_numberOfLeadingZeros_3 : cJ0_numberOfLeadingZeros.data.toList.drop 70 = dktJ0_numberOfLeadingZeros_3 := dk_seg dksJ0_numberOfLeadingZeros_2 24 rfl rfl
theorem dJ0_numberOfLeadingZeros_0 : decode cJ0_numberOfLeadingZeros 0 = .ok (.iload_n 0, 1) := dk_26 (dk_at dksJ0_numberOfLeadingZeros_0 0 rfl rfl)
theorem dJ0_numberOfLeadingZeros_1 : decode cJ0_numberOfLeadingZeros 1 = .ok (.ifCond .gt 14, 3) := dk_157 0 14 (dk_at dksJ0_numberOfLeadingZeros_0 1 rfl rfl)
theorem dJ0_numberOfLeadingZeros_4 : decode cJ0_numberOfLeadingZeros 4 = .ok (.iload_n 0, 1) := dk_26 (dk_at dksJ0_numberOfLeadingZeros_0 4 rfl rfl)
theorem dJ0_numberOfLeadingZeros_5 : decode cJ0_numberOfLeadingZeros 5 = .ok (.ifCond .ne 8, 3) := dk_154 0 8 (dk_at dksJ0_numberOfLeadingZeros_0 5 rfl rfl)
theorem dJ0_numberOfLeadingZeros_8 : decode cJ0_numberOfLeadingZeros 8 = .ok (.bipush 32, 2) := dk_16 32 (dk_at dksJ0_numberOfLeadingZeros_0 8 rfl rfl)
theorem dJ0_numberOfLeadingZeros_10 : decode cJ0_numberOfLeadingZeros 10 = .ok (.goto 4, 3) := dk_167 0 4 (dk_at dksJ0_numberOfLeadingZeros_0 10 rfl rfl)
theorem dJ0_numberOfLeadingZeros_13 : decode cJ0_numberOfLeadingZeros 13 = .ok (.iconst 0, 1) := dk_3 (dk_at dksJ0_numberOfLeadingZeros_0 13 rfl rfl)
theorem dJ0_numberOfLeadingZeros_14 : decode cJ0_numberOfLeadingZeros 14 = .ok (.ireturn, 1) := dk_172 (dk_at dksJ0_numberOfLeadingZeros_0 14 rfl rfl)
theorem dJ0_numberOfLeadingZeros_15 : decode cJ0_numberOfLeadingZeros 15 = .ok (.bipush 31, 2) := dk_16 31 (dk_at dksJ0_numberOfLeadingZeros_0 15 rfl rfl)
theorem dJ0_numberOfLeadingZeros_17 : decode cJ0_numberOfLeadingZeros 17 = .ok (.istore_n 1, 1) := dk_60 (dk_at dksJ0_numberOfLeadingZeros_0 17 rfl rfl)
theorem dJ0_numberOfLeadingZeros_18 : decode cJ0_numberOfLeadingZeros 18 = .ok (.iload_n 0, 1) := dk_26 (dk_at dksJ0_numberOfLeadingZeros_0 18 rfl rfl)
theorem dJ0_numberOfLeadingZeros_19 : decode cJ0_numberOfLeadingZeros 19 = .ok (.ldc_w 264, 3) := dk_19 1 8 (dk_at dksJ0_numberOfLeadingZeros_0 19 rfl rfl)
theorem dJ0_numberOfLeadingZeros_22 : decode cJ0_numberOfLeadingZeros 22 = .ok (.if_icmp .lt 11, 3) := dk_161 0 11 (dk_at dksJ0_numberOfLeadingZeros_1 0 rfl rfl)
theorem dJ0_numberOfLeadingZeros_25 : decode cJ0_numberOfLeadingZeros 25 = .ok (.iinc 1 (-16), 3) := dk_132 1 240 (dk_at dksJ0_numberOfLeadingZeros_1 3 rfl rfl)
theorem dJ0_numberOfLeadingZeros_28 : decode cJ0_numberOfLeadingZeros 28 = .ok (.iload_n 0, 1) := dk_26 (dk_at dksJ0_numberOfLeadingZeros_1 6 rfl rfl)
theorem dJ0_numberOfLeadingZeros_29 : decode cJ0_numberOfLeadingZeros 29 = .ok (.bipush 16, 2) := dk_16 16 (dk_at dksJ0_numberOfLeadingZeros_1 7 rfl rfl)
theorem dJ0_numberOfLeadingZeros_31 : decode cJ0_numberOfLeadingZeros 31 = .ok (.iushr, 1) := dk_124 (dk_at dksJ0_numberOfLeadingZeros_1 9 rfl rfl)
theorem dJ0_numberOfLeadingZeros_32 : decode cJ0_numberOfLeadingZeros 32 = .ok (.istore_n 0, 1) := dk_59 (dk_at dksJ0_numberOfLeadingZeros_1 10 rfl rfl)
theorem dJ0_numberOfLeadingZeros_33 : decode cJ0_numberOfLeadingZeros 33 = .ok (.iload_n 0, 1) := dk_26 (dk_at dksJ0_numberOfLeadingZeros_1 11 rfl rfl)
theorem dJ0_numberOfLeadingZeros_34 : decode cJ0_numberOfLeadingZeros 34 = .ok (.sipush 256, 3) := dk_17 1 0 (dk_at dksJ0_numberOfLeadingZeros_1 12 rfl rfl)
theorem dJ0_numberOfLeadingZeros_37 : decode cJ0_numberOfLeadingZeros 37 = .ok (.if_icmp .lt 11, 3) := dk_161 0 11 (dk_at dksJ0_numberOfLeadingZeros_1 15 rfl rfl)
theorem dJ0_numberOfLeadingZeros_40 : decode cJ0_numberOfLeadingZeros 40 = .ok (.iinc 1 (-8), 3) := dk_132 1 248 (dk_at dksJ0_numberOfLeadingZeros_1 18 rfl rfl)
theorem dJ0_numberOfLeadingZeros_43 : decode cJ0_numberOfLeadingZeros 43 = .ok (.iload_n 0, 1) := dk_26 (dk_at dksJ0_numberOfLeadingZeros_1 21 rfl rfl)
theorem dJ0_numberOfLeadingZeros_44 : decode cJ0_numberOfLeadingZeros 44 = .ok (.bipush 8, 2) := dk_16 8 (dk_at dksJ0_numberOfLeadingZeros_1 22 rfl rfl)
theorem dJ0_numberOfLeadingZeros_46 : decode cJ0_numberOfLeadingZeros 46 = .ok (.iushr, 1) := dk_124 (dk_at dksJ0_numberOfLeadingZeros_2 0 rfl rfl)
theorem dJ0_numberOfLeadingZeros_47 : decode cJ0_numberOfLeadingZeros 47 = .ok (.istore_n 0, 1) := dk_59 (dk_at dksJ0_numberOfLeadingZeros_2 1 rfl rfl)
theorem dJ0_numberOfLeadingZeros_48 : decode cJ0_numberOfLeadingZeros 48 = .ok (.iload_n 0, 1) := dk_26 (dk_at dksJ0_numberOfLeadingZeros_2 2 rfl rfl)
theorem dJ0_numberOfLeadingZeros_49 : decode cJ0_numberOfLeadingZeros 49 = .ok (.bipush 16, 2) := dk_16 16 (dk_at dksJ0_numberOfLeadingZeros_2 3 rfl rfl)
theorem dJ0_numberOfLeadingZeros_51 : decode cJ0_numberOfLeadingZeros 51 = .ok (.if_icmp .lt 10, 3) := dk_161 0 10 (dk_at dksJ0_numberOfLeadingZeros_2 5 rfl rfl)
theorem dJ0_numberOfLeadingZeros_54 : decode cJ0_numberOfLeadingZeros 54 = .ok (.iinc 1 (-4), 3) := dk_132 1 252 (dk_at dksJ0_numberOfLeadingZeros_2 8 rfl rfl)
theorem dJ0_numberOfLeadingZeros_57 : decode cJ0_numberOfLeadingZeros 57 = .ok (.iload_n 0, 1) := dk_26 (dk_at dksJ0_numberOfLeadingZeros_2 11 rfl rfl)
theorem dJ0_numberOfLeadingZeros_58 : decode cJ0_numberOfLeadingZeros 58 = .ok (.iconst 4, 1) := dk_7 (dk_at dksJ0_numberOfLeadingZeros_2 12 rfl rfl)
theorem dJ0_numberOfLeadingZeros_59 : decode cJ0_numberOfLeadingZeros 59 = .ok (.iushr, 1) := dk_124 (dk_at dksJ0_numberOfLeadingZeros_2 13 rfl rfl)
theorem dJ0_numberOfLeadingZeros_60 : decode cJ0_numberOfLeadingZeros 60 = .ok (.istore_n 0, 1) := dk_59 (dk_at dksJ0_numberOfLeadingZeros_2 14 rfl rfl)
theorem dJ0_numberOfLeadingZeros_61 : decode cJ0_numberOfLeadingZeros 61 = .ok (.iload_n 0, 1) := dk_26 (dk_at dksJ0_numberOfLeadingZeros_2 15 rfl rfl)
theorem dJ0_numberOfLeadingZeros_62 : decode cJ0_numberOfLeadingZeros 62 = .ok (.iconst 4, 1) := dk_7 (dk_at dksJ0_numberOfLeadingZeros_2 16 rfl rfl)
theorem dJ0_numberOfLeadingZeros_63 : decode cJ0_numberOfLeadingZeros 63 = .ok (.if_icmp .lt 10, 3) := dk_161 0 10 (dk_at dksJ0_numberOfLeadingZeros_2 17 rfl rfl)
theorem dJ0_numberOfLeadingZeros_66 : decode cJ0_numberOfLeadingZeros 66 = .ok (.iinc 1 (-2), 3) := dk_132 1 254 (dk_at dksJ0_numberOfLeadingZeros_2 20 rfl rfl)
theorem dJ0_numberOfLeadingZeros_69 : decode cJ0_numberOfLeadingZeros 69 = .ok (.iload_n 0, 1) := dk_26 (dk_at dksJ0_numberOfLeadingZeros_2 23 rfl rfl)
theorem dJ0_numberOfLeadingZeros_70 : decode cJ0_numberOfLeadingZeros 70 = .ok (.iconst 2, 1) := dk_5 (dk_at dksJ0_numberOfLeadingZeros_3 0 rfl rfl)
theorem dJ0_numberOfLeadingZeros_71 : decode cJ0_numberOfLeadingZeros 71 = .ok (.iushr, 1) := dk_124 (dk_at dksJ0_numberOfLeadingZeros_3 1 rfl rfl)
theorem dJ0_numberOfLeadingZeros_72 : decode cJ0_numberOfLeadingZeros 72 = .ok (.istore_n 0, 1) := dk_59 (dk_at dksJ0_numberOfLeadingZeros_3 2 rfl rfl)
theorem dJ0_numberOfLeadingZeros_73 : decode cJ0_numberOfLeadingZeros 73 = .ok (.iload_n 1, 1) := dk_27 (dk_at dksJ0_numberOfLeadingZeros_3 3 rfl rfl)
theorem dJ0_numberOfLeadingZeros_74 : decode cJ0_numberOfLeadingZeros 74 = .ok (.iload_n 0, 1) := dk_26 (dk_at dksJ0_numberOfLeadingZeros_3 4 rfl rfl)
theorem dJ0_numberOfLeadingZeros_75 : decode cJ0_numberOfLeadingZeros 75 = .ok (.iconst 1, 1) := dk_4 (dk_at dksJ0_numberOfLeadingZeros_3 5 rfl rfl)
theorem dJ0_numberOfLeadingZeros_76 : decode cJ0_numberOfLeadingZeros 76 = .ok (.iushr, 1) := dk_124 (dk_at dksJ0_numberOfLeadingZeros_3 6 rfl rfl)
theorem dJ0_numberOfLeadingZeros_77 : decode cJ0_numberOfLeadingZeros 77 = .ok (.isub, 1) := dk_100 (dk_at dksJ0_numberOfLeadingZeros_3 7 rfl rfl)
theorem dJ0_numberOfLeadingZeros_78 : decode cJ0_numberOfLeadingZeros 78 = .ok (.ireturn, 1) := dk_172 (dk_at dksJ0_numberOfLeadingZeros_3 8 rfl rfl)
theorem q5 : (Jvm.Cond.initialized "java/lang/Integer") ∈ lw_all := lw_g (lw_at lw_m0 5 rfl) rfl
theorem q79 : (Jvm.Cond.static ({ cls := "java/lang/Integer", name := "numberOfLeadingZeros", desc := "(I)I" } : Jvm.MethodName)) ∈ lw_all := lw_g (lw_at lw_m0 79 rfl) rfl
theorem q80 : (Jvm.Cond.code ({ cls := "java/lang/Integer", name := "numberOfLeadingZeros", desc := "(I)I" } : Jvm.MethodName) prog_5_method_47_code (2 : Nat) (Option.some Jvm.ClassFile.FieldType.int)) ∈ lw_all := lw_g (lw_at lw_m0 80 rfl) rfl
theorem q81 : (Jvm.Cond.constant "java/lang/Integer" (264 : Nat) (65536 : Int32)) ∈ lw_all := lw_g (lw_at lw_m0 81 rfl) rfl
/-! java/lang/Long -/
set_option maxRecDepth 100000
def RJ1 : String := "java/lang/Long"
abbrev cJ1_numberOfLeadingZeros : ByteArray := prog_6_method_48_code
def yJ1_numberOfLeadingZeros : MethodName := ⟨RJ1, "numberOfLeadingZeros", "(J)I"⟩
def dkwJ1_numberOfLeadingZeros_1 : List UInt8 := [184, 1, 52, 172]
abbrev dktJ1_numberOfLeadingZeros_1 : List UInt8 := dkwJ1_numberOfLeadingZeros_1 ++ []
def dkwJ1_numberOfLeadingZeros_0 : List UInt8 := [30, 16, 32, 125, 136, 61, 28, 154, 0, 14, 16, 32, 30, 136, 184, 1, 52, 96, 167, 0, 7, 28]
abbrev dktJ1_numberOfLeadingZeros_0 : List UInt8 := dkwJ1_numberOfLeadingZeros_0 ++ dktJ1_numberOfLeadingZeros_1
theorem dksJ1_numberOfLeadingZeros_0 : cJ1_numberOfLeadingZeros.data.toList.drop 0 = dktJ1_numberOfLeadingZeros_0 := by decide +kernel
theorem dksJ1_numberOfLeadingZeros_1 : cJ1_numberOfLeadingZeros.data.toList.drop 22 = dktJ1_numberOfLeadingZeros_1 := dk_seg dksJ1_numberOfLeadingZeros_0 22 rfl rfl
theorem dJ1_numberOfLeadingZeros_0 : decode cJ1_numberOfLeadingZeros 0 = .ok (.lload_n 0, 1) := dk_30 (dk_at dksJ1_numberOfLeadingZeros_0 0 rfl rfl)
theorem dJ1_numberOfLeadingZeros_1 : decode cJ1_numberOfLeadingZeros 1 = .ok (.bipush 32, 2) := dk_16 32 (dk_at dksJ1_numberOfLeadingZeros_0 1 rfl rfl)
theorem dJ1_numberOfLeadingZeros_3 : decode cJ1_numberOfLeadingZeros 3 = .ok (.lushr, 1) := dk_125 (dk_at dksJ1_numberOfLeadingZeros_0 3 rfl rfl)
theorem dJ1_numberOfLeadingZeros_4 : decode cJ1_numberOfLeadingZeros 4 = .ok (.l2i, 1) := dk_136 (dk_at dksJ1_numberOfLeadingZeros_0 4 rfl rfl)
theorem dJ1_numberOfLeadingZeros_5 : decode cJ1_numberOfLeadingZeros 5 = .ok (.istore_n 2, 1) := dk_61 (dk_at dksJ1_numberOfLeadingZeros_0 5 rfl rfl)
theorem dJ1_numberOfLeadingZeros_6 : decode cJ1_numberOfLeadingZeros 6 = .ok (.iload_n 2, 1) := dk_28 (dk_at dksJ1_numberOfLeadingZeros_0 6 rfl rfl)
theorem dJ1_numberOfLeadingZeros_7 : decode cJ1_numberOfLeadingZeros 7 = .ok (.ifCond .ne 14, 3) := dk_154 0 14 (dk_at dksJ1_numberOfLeadingZeros_0 7 rfl rfl)
theorem dJ1_numberOfLeadingZeros_10 : decode cJ1_numberOfLeadingZeros 10 = .ok (.bipush 32, 2) := dk_16 32 (dk_at dksJ1_numberOfLeadingZeros_0 10 rfl rfl)
theorem dJ1_numberOfLeadingZeros_12 : decode cJ1_numberOfLeadingZeros 12 = .ok (.lload_n 0, 1) := dk_30 (dk_at dksJ1_numberOfLeadingZeros_0 12 rfl rfl)
theorem dJ1_numberOfLeadingZeros_13 : decode cJ1_numberOfLeadingZeros 13 = .ok (.l2i, 1) := dk_136 (dk_at dksJ1_numberOfLeadingZeros_0 13 rfl rfl)
theorem dJ1_numberOfLeadingZeros_14 : decode cJ1_numberOfLeadingZeros 14 = .ok (.invokestatic 308, 3) := dk_184 1 52 (dk_at dksJ1_numberOfLeadingZeros_0 14 rfl rfl)
theorem dJ1_numberOfLeadingZeros_17 : decode cJ1_numberOfLeadingZeros 17 = .ok (.iadd, 1) := dk_96 (dk_at dksJ1_numberOfLeadingZeros_0 17 rfl rfl)
theorem dJ1_numberOfLeadingZeros_18 : decode cJ1_numberOfLeadingZeros 18 = .ok (.goto 7, 3) := dk_167 0 7 (dk_at dksJ1_numberOfLeadingZeros_0 18 rfl rfl)
theorem dJ1_numberOfLeadingZeros_21 : decode cJ1_numberOfLeadingZeros 21 = .ok (.iload_n 2, 1) := dk_28 (dk_at dksJ1_numberOfLeadingZeros_0 21 rfl rfl)
theorem dJ1_numberOfLeadingZeros_22 : decode cJ1_numberOfLeadingZeros 22 = .ok (.invokestatic 308, 3) := dk_184 1 52 (dk_at dksJ1_numberOfLeadingZeros_1 0 rfl rfl)
theorem dJ1_numberOfLeadingZeros_25 : decode cJ1_numberOfLeadingZeros 25 = .ok (.ireturn, 1) := dk_172 (dk_at dksJ1_numberOfLeadingZeros_1 3 rfl rfl)
theorem q6 : (Jvm.Cond.initialized "java/lang/Long") ∈ lw_all := lw_g (lw_at lw_m0 6 rfl) rfl
theorem q91 : (Jvm.Cond.static ({ cls := "java/lang/Long", name := "numberOfLeadingZeros", desc := "(J)I" } : Jvm.MethodName)) ∈ lw_all := lw_g (lw_at lw_m0 91 rfl) rfl
theorem q92 : (Jvm.Cond.code ({ cls := "java/lang/Long", name := "numberOfLeadingZeros", desc := "(J)I" } : Jvm.MethodName) prog_6_method_48_code (3 : Nat) (Option.some Jvm.ClassFile.FieldType.int)) ∈ lw_all := lw_g (lw_at lw_m0 92 rfl) rfl
theorem q93 : (Jvm.Cond.methodLink "java/lang/Long" (308 : Nat) ({ cls := "java/lang/Integer", name := "numberOfLeadingZeros", desc := "(I)I" } : Jvm.MethodName)) ∈ lw_all := lw_g (lw_at lw_m0 93 rfl) rfl
/-! java/lang/Object -/
set_option maxRecDepth 100000
def RJ2 : String := "java/lang/Object"
abbrev cJ2_init : ByteArray := object_method_1_code
def yJ2_init : MethodName := ⟨RJ2, "<init>", "()V"⟩
theorem dJ2_init_0 : decode cJ2_init 0 = .ok (.return_, 1) := by decide +kernel
theorem q13 : (Jvm.Cond.instanceMethod ({ cls := "java/lang/Object", name := "<init>", desc := "()V" } : Jvm.MethodName)) ∈ lw_all := lw_g (lw_at lw_m0 13 rfl) rfl
theorem q14 : (Jvm.Cond.code ({ cls := "java/lang/Object", name := "<init>", desc := "()V" } : Jvm.MethodName) object_method_1_code (1 : Nat) (Option.none : Option Jvm.ClassFile.FieldType)) ∈ lw_all := lw_g (lw_at lw_m0 14 rfl) rfl
/-! the law's own entry -/
set_option maxRecDepth 100000
abbrev cL_law : ByteArray := code
def dkwL_law_12 : List UInt8 := [46, 42, 29, 5, 96, 46, 182, 0, 46, 148, 153, 0, 5, 3, 172, 132, 3, 6, 167, 254, 219, 4, 172]
abbrev dktL_law_12 : List UInt8 := dkwL_law_12 ++ []
def dkwL_law_11 : List UInt8 := [159, 0, 39, 3, 172, 43, 42, 29, 4, 96, 46, 42, 29, 5, 96, 46, 182, 0, 43, 44, 42, 29, 4, 96]
abbrev dktL_law_11 : List UInt8 := dkwL_law_11 ++ dktL_law_12
def dkwL_law_10 : List UInt8 := [153, 0, 62, 3, 172, 43, 42, 29, 4, 96, 46, 182, 0, 39, 44, 42, 29, 4, 96, 46, 182, 0, 42]
abbrev dktL_law_10 : List UInt8 := dkwL_law_10 ++ dktL_law_11
def dkwL_law_9 : List UInt8 := [42, 29, 5, 96, 46, 182, 0, 35, 44, 42, 29, 4, 96, 46, 42, 29, 5, 96, 46, 182, 0, 38, 148]
abbrev dktL_law_9 : List UInt8 := dkwL_law_9 ++ dktL_law_10
def dkwL_law_8 : List UInt8 := [46, 182, 0, 31, 44, 42, 29, 4, 96, 46, 182, 0, 34, 159, 0, 96, 3, 172, 43, 42, 29, 4, 96, 46]
abbrev dktL_law_8 : List UInt8 := dkwL_law_8 ++ dktL_law_9
def dkwL_law_7 : List UInt8 := [42, 29, 4, 96, 46, 42, 29, 5, 96, 46, 182, 0, 30, 148, 153, 0, 119, 3, 172, 43, 42, 29, 4, 96]
abbrev dktL_law_7 : List UInt8 := dkwL_law_7 ++ dktL_law_8
def dkwL_law_6 : List UInt8 := [182, 0, 26, 148, 153, 0, 153, 3, 172, 43, 42, 29, 4, 96, 46, 42, 29, 5, 96, 46, 182, 0, 27, 44]
abbrev dktL_law_6 : List UInt8 := dkwL_law_6 ++ dktL_law_7
def dkwL_law_5 : List UInt8 := [29, 4, 96, 46, 42, 29, 5, 96, 46, 182, 0, 22, 44, 42, 29, 4, 96, 46, 42, 29, 5, 96, 46]
abbrev dktL_law_5 : List UInt8 := dkwL_law_5 ++ dktL_law_6
def dkwL_law_4 : List UInt8 := [42, 29, 4, 96, 46, 182, 0, 18, 44, 42, 29, 4, 96, 46, 182, 0, 21, 159, 0, 187, 3, 172, 43, 42]
abbrev dktL_law_4 : List UInt8 := dkwL_law_4 ++ dktL_law_5
def dkwL_law_3 : List UInt8 := [43, 42, 29, 4, 96, 46, 182, 0, 13, 44, 42, 29, 4, 96, 46, 182, 0, 17, 159, 0, 210, 3, 172, 43]
abbrev dktL_law_3 : List UInt8 := dkwL_law_3 ++ dktL_law_4
def dkwL_law_2 : List UInt8 := [170, 0, 0, 0, 0, 1, 19, 0, 0, 0, 0, 0, 0, 0, 7, 0, 0, 0, 47, 0, 0, 0, 70, 0, 0, 0, 93, 0, 0, 0, 127, 0, 0, 0, 161, 0, 0, 0, 184, 0, 0, 0, 218, 0, 0, 0, 241]
abbrev dktL_law_2 : List UInt8 := dkwL_law_2 ++ dktL_law_3
def dkwL_law_1 : List UInt8 := [163, 1, 34, 42, 29, 46, 16, 7, 126]
abbrev dktL_law_1 : List UInt8 := dkwL_law_1 ++ dktL_law_2
def dkwL_law_0 : List UInt8 := [187, 0, 7, 89, 183, 0, 9, 76, 187, 0, 10, 89, 183, 0, 12, 77, 3, 62, 29, 42, 190, 16, 6, 100]
abbrev dktL_law_0 : List UInt8 := dkwL_law_0 ++ dktL_law_1
theorem dksL_law_0 : cL_law.data.toList.drop 0 = dktL_law_0 := by decide +kernel
theorem dksL_law_1 : cL_law.data.toList.drop 24 = dktL_law_1 := dk_seg dksL_law_0 24 rfl rfl
theorem dksL_law_2 : cL_law.data.toList.drop 33 = dktL_law_2 := dk_seg dksL_law_1 9 rfl rfl
theorem dksL_law_3 : cL_law.data.toList.drop 80 = dktL_law_3 := dk_seg dksL_law_2 47 rfl rfl
theorem dksL_law_4 : cL_law.data.toList.drop 104 = dktL_law_4 := dk_seg dksL_law_3 24 rfl rfl
theorem dksL_law_5 : cL_law.data.toList.drop 128 = dktL_law_5 := dk_seg dksL_law_4 24 rfl rfl
theorem dksL_law_6 : cL_law.data.toList.drop 151 = dktL_law_6 := dk_seg dksL_law_5 23 rfl rfl
theorem dksL_law_7 : cL_law.data.toList.drop 175 = dktL_law_7 := dk_seg dksL_law_6 24 rfl rfl
theorem dksL_law_8 : cL_law.data.toList.drop 199 = dktL_law_8 := dk_seg dksL_law_7 24 rfl rfl
theorem dksL_law_9 : cL_law.data.toList.drop 223 = dktL_law_9 := dk_seg dksL_law_8 24 rfl rfl
theorem dksL_law_10 : cL_law.data.toList.drop 246 = dktL_law_10 := dk_seg dksL_law_9 23 rfl rfl
theorem dksL_law_11 : cL_law.data.toList.drop 269 = dktL_law_11 := dk_seg dksL_law_10 23 rfl rfl
theorem dksL_law_12 : cL_law.data.toList.drop 293 = dktL_law_12 := dk_seg dksL_law_11 24 rfl rfl
theorem dL_law_0 : decode cL_law 0 = .ok (.new 7, 3) := dk_187 0 7 (dk_at dksL_law_0 0 rfl rfl)
theorem dL_law_3 : decode cL_law 3 = .ok (.dup, 1) := dk_89 (dk_at dksL_law_0 3 rfl rfl)
theorem dL_law_4 : decode cL_law 4 = .ok (.invokespecial 9, 3) := dk_183 0 9 (dk_at dksL_law_0 4 rfl rfl)
theorem dL_law_7 : decode cL_law 7 = .ok (.astore_n 1, 1) := dk_76 (dk_at dksL_law_0 7 rfl rfl)
theorem dL_law_8 : decode cL_law 8 = .ok (.new 10, 3) := dk_187 0 10 (dk_at dksL_law_0 8 rfl rfl)
theorem dL_law_11 : decode cL_law 11 = .ok (.dup, 1) := dk_89 (dk_at dksL_law_0 11 rfl rfl)
theorem dL_law_12 : decode cL_law 12 = .ok (.invokespecial 12, 3) := dk_183 0 12 (dk_at dksL_law_0 12 rfl rfl)
theorem dL_law_15 : decode cL_law 15 = .ok (.astore_n 2, 1) := dk_77 (dk_at dksL_law_0 15 rfl rfl)
theorem dL_law_16 : decode cL_law 16 = .ok (.iconst 0, 1) := dk_3 (dk_at dksL_law_0 16 rfl rfl)
theorem dL_law_17 : decode cL_law 17 = .ok (.istore_n 3, 1) := dk_62 (dk_at dksL_law_0 17 rfl rfl)
theorem dL_law_18 : decode cL_law 18 = .ok (.iload_n 3, 1) := dk_29 (dk_at dksL_law_0 18 rfl rfl)
theorem dL_law_19 : decode cL_law 19 = .ok (.aload_n 0, 1) := dk_42 (dk_at dksL_law_0 19 rfl rfl)
theorem dL_law_20 : decode cL_law 20 = .ok (.arraylength, 1) := dk_190 (dk_at dksL_law_0 20 rfl rfl)
theorem dL_law_21 : decode cL_law 21 = .ok (.bipush 6, 2) := dk_16 6 (dk_at dksL_law_0 21 rfl rfl)
theorem dL_law_23 : decode cL_law 23 = .ok (.isub, 1) := dk_100 (dk_at dksL_law_0 23 rfl rfl)
theorem dL_law_24 : decode cL_law 24 = .ok (.if_icmp .gt 290, 3) := dk_163 1 34 (dk_at dksL_law_1 0 rfl rfl)
theorem dL_law_27 : decode cL_law 27 = .ok (.aload_n 0, 1) := dk_42 (dk_at dksL_law_1 3 rfl rfl)
theorem dL_law_28 : decode cL_law 28 = .ok (.iload_n 3, 1) := dk_29 (dk_at dksL_law_1 4 rfl rfl)
theorem dL_law_29 : decode cL_law 29 = .ok (.iaload, 1) := dk_46 (dk_at dksL_law_1 5 rfl rfl)
theorem dL_law_30 : decode cL_law 30 = .ok (.bipush 7, 2) := dk_16 7 (dk_at dksL_law_1 6 rfl rfl)
theorem dL_law_32 : decode cL_law 32 = .ok (.iand, 1) := dk_126 (dk_at dksL_law_1 8 rfl rfl)
theorem dL_law_33 : decode cL_law 33 = .ok (.tableswitch 275 0 7 #[47, 70, 93, 127, 161, 184, 218, 241], 47) := by decide +kernel
theorem dL_law_80 : decode cL_law 80 = .ok (.aload_n 1, 1) := dk_43 (dk_at dksL_law_3 0 rfl rfl)
theorem dL_law_81 : decode cL_law 81 = .ok (.aload_n 0, 1) := dk_42 (dk_at dksL_law_3 1 rfl rfl)
theorem dL_law_82 : decode cL_law 82 = .ok (.iload_n 3, 1) := dk_29 (dk_at dksL_law_3 2 rfl rfl)
theorem dL_law_83 : decode cL_law 83 = .ok (.iconst 1, 1) := dk_4 (dk_at dksL_law_3 3 rfl rfl)
theorem dL_law_84 : decode cL_law 84 = .ok (.iadd, 1) := dk_96 (dk_at dksL_law_3 4 rfl rfl)
theorem dL_law_85 : decode cL_law 85 = .ok (.iaload, 1) := dk_46 (dk_at dksL_law_3 5 rfl rfl)
theorem dL_law_86 : decode cL_law 86 = .ok (.invokevirtual 13, 3) := dk_182 0 13 (dk_at dksL_law_3 6 rfl rfl)
theorem dL_law_89 : decode cL_law 89 = .ok (.aload_n 2, 1) := dk_44 (dk_at dksL_law_3 9 rfl rfl)
theorem dL_law_90 : decode cL_law 90 = .ok (.aload_n 0, 1) := dk_42 (dk_at dksL_law_3 10 rfl rfl)
theorem dL_law_91 : decode cL_law 91 = .ok (.iload_n 3, 1) := dk_29 (dk_at dksL_law_3 11 rfl rfl)
theorem dL_law_92 : decode cL_law 92 = .ok (.iconst 1, 1) := dk_4 (dk_at dksL_law_3 12 rfl rfl)
theorem dL_law_93 : decode cL_law 93 = .ok (.iadd, 1) := dk_96 (dk_at dksL_law_3 13 rfl rfl)
theorem dL_law_94 : decode cL_law 94 = .ok (.iaload, 1) := dk_46 (dk_at dksL_law_3 14 rfl rfl)
theorem dL_law_95 : decode cL_law 95 = .ok (.invokevirtual 17, 3) := dk_182 0 17 (dk_at dksL_law_3 15 rfl rfl)
theorem dL_law_98 : decode cL_law 98 = .ok (.if_icmp .eq 210, 3) := dk_159 0 210 (dk_at dksL_law_3 18 rfl rfl)
theorem dL_law_101 : decode cL_law 101 = .ok (.iconst 0, 1) := dk_3 (dk_at dksL_law_3 21 rfl rfl)
theorem dL_law_102 : decode cL_law 102 = .ok (.ireturn, 1) := dk_172 (dk_at dksL_law_3 22 rfl rfl)
theorem dL_law_103 : decode cL_law 103 = .ok (.aload_n 1, 1) := dk_43 (dk_at dksL_law_3 23 rfl rfl)
theorem dL_law_104 : decode cL_law 104 = .ok (.aload_n 0, 1) := dk_42 (dk_at dksL_law_4 0 rfl rfl)
theorem dL_law_105 : decode cL_law 105 = .ok (.iload_n 3, 1) := dk_29 (dk_at dksL_law_4 1 rfl rfl)
theorem dL_law_106 : decode cL_law 106 = .ok (.iconst 1, 1) := dk_4 (dk_at dksL_law_4 2 rfl rfl)
theorem dL_law_107 : decode cL_law 107 = .ok (.iadd, 1) := dk_96 (dk_at dksL_law_4 3 rfl rfl)
theorem dL_law_108 : decode cL_law 108 = .ok (.iaload, 1) := dk_46 (dk_at dksL_law_4 4 rfl rfl)
theorem dL_law_109 : decode cL_law 109 = .ok (.invokevirtual 18, 3) := dk_182 0 18 (dk_at dksL_law_4 5 rfl rfl)
theorem dL_law_112 : decode cL_law 112 = .ok (.aload_n 2, 1) := dk_44 (dk_at dksL_law_4 8 rfl rfl)
theorem dL_law_113 : decode cL_law 113 = .ok (.aload_n 0, 1) := dk_42 (dk_at dksL_law_4 9 rfl rfl)
theorem dL_law_114 : decode cL_law 114 = .ok (.iload_n 3, 1) := dk_29 (dk_at dksL_law_4 10 rfl rfl)
theorem dL_law_115 : decode cL_law 115 = .ok (.iconst 1, 1) := dk_4 (dk_at dksL_law_4 11 rfl rfl)
theorem dL_law_116 : decode cL_law 116 = .ok (.iadd, 1) := dk_96 (dk_at dksL_law_4 12 rfl rfl)
theorem dL_law_117 : decode cL_law 117 = .ok (.iaload, 1) := dk_46 (dk_at dksL_law_4 13 rfl rfl)
theorem dL_law_118 : decode cL_law 118 = .ok (.invokevirtual 21, 3) := dk_182 0 21 (dk_at dksL_law_4 14 rfl rfl)
theorem dL_law_121 : decode cL_law 121 = .ok (.if_icmp .eq 187, 3) := dk_159 0 187 (dk_at dksL_law_4 17 rfl rfl)
theorem dL_law_124 : decode cL_law 124 = .ok (.iconst 0, 1) := dk_3 (dk_at dksL_law_4 20 rfl rfl)
theorem dL_law_125 : decode cL_law 125 = .ok (.ireturn, 1) := dk_172 (dk_at dksL_law_4 21 rfl rfl)
theorem dL_law_126 : decode cL_law 126 = .ok (.aload_n 1, 1) := dk_43 (dk_at dksL_law_4 22 rfl rfl)
theorem dL_law_127 : decode cL_law 127 = .ok (.aload_n 0, 1) := dk_42 (dk_at dksL_law_4 23 rfl rfl)
theorem dL_law_128 : decode cL_law 128 = .ok (.iload_n 3, 1) := dk_29 (dk_at dksL_law_5 0 rfl rfl)
theorem dL_law_129 : decode cL_law 129 = .ok (.iconst 1, 1) := dk_4 (dk_at dksL_law_5 1 rfl rfl)
theorem dL_law_130 : decode cL_law 130 = .ok (.iadd, 1) := dk_96 (dk_at dksL_law_5 2 rfl rfl)
theorem dL_law_131 : decode cL_law 131 = .ok (.iaload, 1) := dk_46 (dk_at dksL_law_5 3 rfl rfl)
theorem dL_law_132 : decode cL_law 132 = .ok (.aload_n 0, 1) := dk_42 (dk_at dksL_law_5 4 rfl rfl)
theorem dL_law_133 : decode cL_law 133 = .ok (.iload_n 3, 1) := dk_29 (dk_at dksL_law_5 5 rfl rfl)
theorem dL_law_134 : decode cL_law 134 = .ok (.iconst 2, 1) := dk_5 (dk_at dksL_law_5 6 rfl rfl)
theorem dL_law_135 : decode cL_law 135 = .ok (.iadd, 1) := dk_96 (dk_at dksL_law_5 7 rfl rfl)
theorem dL_law_136 : decode cL_law 136 = .ok (.iaload, 1) := dk_46 (dk_at dksL_law_5 8 rfl rfl)
theorem dL_law_137 : decode cL_law 137 = .ok (.invokevirtual 22, 3) := dk_182 0 22 (dk_at dksL_law_5 9 rfl rfl)
theorem dL_law_140 : decode cL_law 140 = .ok (.aload_n 2, 1) := dk_44 (dk_at dksL_law_5 12 rfl rfl)
theorem dL_law_141 : decode cL_law 141 = .ok (.aload_n 0, 1) := dk_42 (dk_at dksL_law_5 13 rfl rfl)
theorem dL_law_142 : decode cL_law 142 = .ok (.iload_n 3, 1) := dk_29 (dk_at dksL_law_5 14 rfl rfl)
theorem dL_law_143 : decode cL_law 143 = .ok (.iconst 1, 1) := dk_4 (dk_at dksL_law_5 15 rfl rfl)
theorem dL_law_144 : decode cL_law 144 = .ok (.iadd, 1) := dk_96 (dk_at dksL_law_5 16 rfl rfl)
theorem dL_law_145 : decode cL_law 145 = .ok (.iaload, 1) := dk_46 (dk_at dksL_law_5 17 rfl rfl)
theorem dL_law_146 : decode cL_law 146 = .ok (.aload_n 0, 1) := dk_42 (dk_at dksL_law_5 18 rfl rfl)
theorem dL_law_147 : decode cL_law 147 = .ok (.iload_n 3, 1) := dk_29 (dk_at dksL_law_5 19 rfl rfl)
theorem dL_law_148 : decode cL_law 148 = .ok (.iconst 2, 1) := dk_5 (dk_at dksL_law_5 20 rfl rfl)
theorem dL_law_149 : decode cL_law 149 = .ok (.iadd, 1) := dk_96 (dk_at dksL_law_5 21 rfl rfl)
theorem dL_law_150 : decode cL_law 150 = .ok (.iaload, 1) := dk_46 (dk_at dksL_law_5 22 rfl rfl)
theorem dL_law_151 : decode cL_law 151 = .ok (.invokevirtual 26, 3) := dk_182 0 26 (dk_at dksL_law_6 0 rfl rfl)
theorem dL_law_154 : decode cL_law 154 = .ok (.lcmp, 1) := dk_148 (dk_at dksL_law_6 3 rfl rfl)
theorem dL_law_155 : decode cL_law 155 = .ok (.ifCond .eq 153, 3) := dk_153 0 153 (dk_at dksL_law_6 4 rfl rfl)
theorem dL_law_158 : decode cL_law 158 = .ok (.iconst 0, 1) := dk_3 (dk_at dksL_law_6 7 rfl rfl)
theorem dL_law_159 : decode cL_law 159 = .ok (.ireturn, 1) := dk_172 (dk_at dksL_law_6 8 rfl rfl)
theorem dL_law_160 : decode cL_law 160 = .ok (.aload_n 1, 1) := dk_43 (dk_at dksL_law_6 9 rfl rfl)
theorem dL_law_161 : decode cL_law 161 = .ok (.aload_n 0, 1) := dk_42 (dk_at dksL_law_6 10 rfl rfl)
theorem dL_law_162 : decode cL_law 162 = .ok (.iload_n 3, 1) := dk_29 (dk_at dksL_law_6 11 rfl rfl)
theorem dL_law_163 : decode cL_law 163 = .ok (.iconst 1, 1) := dk_4 (dk_at dksL_law_6 12 rfl rfl)
theorem dL_law_164 : decode cL_law 164 = .ok (.iadd, 1) := dk_96 (dk_at dksL_law_6 13 rfl rfl)
theorem dL_law_165 : decode cL_law 165 = .ok (.iaload, 1) := dk_46 (dk_at dksL_law_6 14 rfl rfl)
theorem dL_law_166 : decode cL_law 166 = .ok (.aload_n 0, 1) := dk_42 (dk_at dksL_law_6 15 rfl rfl)
theorem dL_law_167 : decode cL_law 167 = .ok (.iload_n 3, 1) := dk_29 (dk_at dksL_law_6 16 rfl rfl)
theorem dL_law_168 : decode cL_law 168 = .ok (.iconst 2, 1) := dk_5 (dk_at dksL_law_6 17 rfl rfl)
theorem dL_law_169 : decode cL_law 169 = .ok (.iadd, 1) := dk_96 (dk_at dksL_law_6 18 rfl rfl)
theorem dL_law_170 : decode cL_law 170 = .ok (.iaload, 1) := dk_46 (dk_at dksL_law_6 19 rfl rfl)
theorem dL_law_171 : decode cL_law 171 = .ok (.invokevirtual 27, 3) := dk_182 0 27 (dk_at dksL_law_6 20 rfl rfl)
theorem dL_law_174 : decode cL_law 174 = .ok (.aload_n 2, 1) := dk_44 (dk_at dksL_law_6 23 rfl rfl)
theorem dL_law_175 : decode cL_law 175 = .ok (.aload_n 0, 1) := dk_42 (dk_at dksL_law_7 0 rfl rfl)
theorem dL_law_176 : decode cL_law 176 = .ok (.iload_n 3, 1) := dk_29 (dk_at dksL_law_7 1 rfl rfl)
theorem dL_law_177 : decode cL_law 177 = .ok (.iconst 1, 1) := dk_4 (dk_at dksL_law_7 2 rfl rfl)
theorem dL_law_178 : decode cL_law 178 = .ok (.iadd, 1) := dk_96 (dk_at dksL_law_7 3 rfl rfl)
theorem dL_law_179 : decode cL_law 179 = .ok (.iaload, 1) := dk_46 (dk_at dksL_law_7 4 rfl rfl)
theorem dL_law_180 : decode cL_law 180 = .ok (.aload_n 0, 1) := dk_42 (dk_at dksL_law_7 5 rfl rfl)
theorem dL_law_181 : decode cL_law 181 = .ok (.iload_n 3, 1) := dk_29 (dk_at dksL_law_7 6 rfl rfl)
theorem dL_law_182 : decode cL_law 182 = .ok (.iconst 2, 1) := dk_5 (dk_at dksL_law_7 7 rfl rfl)
theorem dL_law_183 : decode cL_law 183 = .ok (.iadd, 1) := dk_96 (dk_at dksL_law_7 8 rfl rfl)
theorem dL_law_184 : decode cL_law 184 = .ok (.iaload, 1) := dk_46 (dk_at dksL_law_7 9 rfl rfl)
theorem dL_law_185 : decode cL_law 185 = .ok (.invokevirtual 30, 3) := dk_182 0 30 (dk_at dksL_law_7 10 rfl rfl)
theorem dL_law_188 : decode cL_law 188 = .ok (.lcmp, 1) := dk_148 (dk_at dksL_law_7 13 rfl rfl)
theorem dL_law_189 : decode cL_law 189 = .ok (.ifCond .eq 119, 3) := dk_153 0 119 (dk_at dksL_law_7 14 rfl rfl)
theorem dL_law_192 : decode cL_law 192 = .ok (.iconst 0, 1) := dk_3 (dk_at dksL_law_7 17 rfl rfl)
theorem dL_law_193 : decode cL_law 193 = .ok (.ireturn, 1) := dk_172 (dk_at dksL_law_7 18 rfl rfl)
theorem dL_law_194 : decode cL_law 194 = .ok (.aload_n 1, 1) := dk_43 (dk_at dksL_law_7 19 rfl rfl)
theorem dL_law_195 : decode cL_law 195 = .ok (.aload_n 0, 1) := dk_42 (dk_at dksL_law_7 20 rfl rfl)
theorem dL_law_196 : decode cL_law 196 = .ok (.iload_n 3, 1) := dk_29 (dk_at dksL_law_7 21 rfl rfl)
theorem dL_law_197 : decode cL_law 197 = .ok (.iconst 1, 1) := dk_4 (dk_at dksL_law_7 22 rfl rfl)
theorem dL_law_198 : decode cL_law 198 = .ok (.iadd, 1) := dk_96 (dk_at dksL_law_7 23 rfl rfl)
theorem dL_law_199 : decode cL_law 199 = .ok (.iaload, 1) := dk_46 (dk_at dksL_law_8 0 rfl rfl)
theorem dL_law_200 : decode cL_law 200 = .ok (.invokevirtual 31, 3) := dk_182 0 31 (dk_at dksL_law_8 1 rfl rfl)
theorem dL_law_203 : decode cL_law 203 = .ok (.aload_n 2, 1) := dk_44 (dk_at dksL_law_8 4 rfl rfl)
theorem dL_law_204 : decode cL_law 204 = .ok (.aload_n 0, 1) := dk_42 (dk_at dksL_law_8 5 rfl rfl)
theorem dL_law_205 : decode cL_law 205 = .ok (.iload_n 3, 1) := dk_29 (dk_at dksL_law_8 6 rfl rfl)
theorem dL_law_206 : decode cL_law 206 = .ok (.iconst 1, 1) := dk_4 (dk_at dksL_law_8 7 rfl rfl)
theorem dL_law_207 : decode cL_law 207 = .ok (.iadd, 1) := dk_96 (dk_at dksL_law_8 8 rfl rfl)
theorem dL_law_208 : decode cL_law 208 = .ok (.iaload, 1) := dk_46 (dk_at dksL_law_8 9 rfl rfl)
theorem dL_law_209 : decode cL_law 209 = .ok (.invokevirtual 34, 3) := dk_182 0 34 (dk_at dksL_law_8 10 rfl rfl)
theorem dL_law_212 : decode cL_law 212 = .ok (.if_icmp .eq 96, 3) := dk_159 0 96 (dk_at dksL_law_8 13 rfl rfl)
theorem dL_law_215 : decode cL_law 215 = .ok (.iconst 0, 1) := dk_3 (dk_at dksL_law_8 16 rfl rfl)
theorem dL_law_216 : decode cL_law 216 = .ok (.ireturn, 1) := dk_172 (dk_at dksL_law_8 17 rfl rfl)
theorem dL_law_217 : decode cL_law 217 = .ok (.aload_n 1, 1) := dk_43 (dk_at dksL_law_8 18 rfl rfl)
theorem dL_law_218 : decode cL_law 218 = .ok (.aload_n 0, 1) := dk_42 (dk_at dksL_law_8 19 rfl rfl)
theorem dL_law_219 : decode cL_law 219 = .ok (.iload_n 3, 1) := dk_29 (dk_at dksL_law_8 20 rfl rfl)
theorem dL_law_220 : decode cL_law 220 = .ok (.iconst 1, 1) := dk_4 (dk_at dksL_law_8 21 rfl rfl)
theorem dL_law_221 : decode cL_law 221 = .ok (.iadd, 1) := dk_96 (dk_at dksL_law_8 22 rfl rfl)
theorem dL_law_222 : decode cL_law 222 = .ok (.iaload, 1) := dk_46 (dk_at dksL_law_8 23 rfl rfl)
theorem dL_law_223 : decode cL_law 223 = .ok (.aload_n 0, 1) := dk_42 (dk_at dksL_law_9 0 rfl rfl)
theorem dL_law_224 : decode cL_law 224 = .ok (.iload_n 3, 1) := dk_29 (dk_at dksL_law_9 1 rfl rfl)
theorem dL_law_225 : decode cL_law 225 = .ok (.iconst 2, 1) := dk_5 (dk_at dksL_law_9 2 rfl rfl)
theorem dL_law_226 : decode cL_law 226 = .ok (.iadd, 1) := dk_96 (dk_at dksL_law_9 3 rfl rfl)
theorem dL_law_227 : decode cL_law 227 = .ok (.iaload, 1) := dk_46 (dk_at dksL_law_9 4 rfl rfl)
theorem dL_law_228 : decode cL_law 228 = .ok (.invokevirtual 35, 3) := dk_182 0 35 (dk_at dksL_law_9 5 rfl rfl)
theorem dL_law_231 : decode cL_law 231 = .ok (.aload_n 2, 1) := dk_44 (dk_at dksL_law_9 8 rfl rfl)
theorem dL_law_232 : decode cL_law 232 = .ok (.aload_n 0, 1) := dk_42 (dk_at dksL_law_9 9 rfl rfl)
theorem dL_law_233 : decode cL_law 233 = .ok (.iload_n 3, 1) := dk_29 (dk_at dksL_law_9 10 rfl rfl)
theorem dL_law_234 : decode cL_law 234 = .ok (.iconst 1, 1) := dk_4 (dk_at dksL_law_9 11 rfl rfl)
theorem dL_law_235 : decode cL_law 235 = .ok (.iadd, 1) := dk_96 (dk_at dksL_law_9 12 rfl rfl)
theorem dL_law_236 : decode cL_law 236 = .ok (.iaload, 1) := dk_46 (dk_at dksL_law_9 13 rfl rfl)
theorem dL_law_237 : decode cL_law 237 = .ok (.aload_n 0, 1) := dk_42 (dk_at dksL_law_9 14 rfl rfl)
theorem dL_law_238 : decode cL_law 238 = .ok (.iload_n 3, 1) := dk_29 (dk_at dksL_law_9 15 rfl rfl)
theorem dL_law_239 : decode cL_law 239 = .ok (.iconst 2, 1) := dk_5 (dk_at dksL_law_9 16 rfl rfl)
theorem dL_law_240 : decode cL_law 240 = .ok (.iadd, 1) := dk_96 (dk_at dksL_law_9 17 rfl rfl)
theorem dL_law_241 : decode cL_law 241 = .ok (.iaload, 1) := dk_46 (dk_at dksL_law_9 18 rfl rfl)
theorem dL_law_242 : decode cL_law 242 = .ok (.invokevirtual 38, 3) := dk_182 0 38 (dk_at dksL_law_9 19 rfl rfl)
theorem dL_law_245 : decode cL_law 245 = .ok (.lcmp, 1) := dk_148 (dk_at dksL_law_9 22 rfl rfl)
theorem dL_law_246 : decode cL_law 246 = .ok (.ifCond .eq 62, 3) := dk_153 0 62 (dk_at dksL_law_10 0 rfl rfl)
theorem dL_law_249 : decode cL_law 249 = .ok (.iconst 0, 1) := dk_3 (dk_at dksL_law_10 3 rfl rfl)
theorem dL_law_250 : decode cL_law 250 = .ok (.ireturn, 1) := dk_172 (dk_at dksL_law_10 4 rfl rfl)
theorem dL_law_251 : decode cL_law 251 = .ok (.aload_n 1, 1) := dk_43 (dk_at dksL_law_10 5 rfl rfl)
theorem dL_law_252 : decode cL_law 252 = .ok (.aload_n 0, 1) := dk_42 (dk_at dksL_law_10 6 rfl rfl)
theorem dL_law_253 : decode cL_law 253 = .ok (.iload_n 3, 1) := dk_29 (dk_at dksL_law_10 7 rfl rfl)
theorem dL_law_254 : decode cL_law 254 = .ok (.iconst 1, 1) := dk_4 (dk_at dksL_law_10 8 rfl rfl)
theorem dL_law_255 : decode cL_law 255 = .ok (.iadd, 1) := dk_96 (dk_at dksL_law_10 9 rfl rfl)
theorem dL_law_256 : decode cL_law 256 = .ok (.iaload, 1) := dk_46 (dk_at dksL_law_10 10 rfl rfl)
theorem dL_law_257 : decode cL_law 257 = .ok (.invokevirtual 39, 3) := dk_182 0 39 (dk_at dksL_law_10 11 rfl rfl)
theorem dL_law_260 : decode cL_law 260 = .ok (.aload_n 2, 1) := dk_44 (dk_at dksL_law_10 14 rfl rfl)
theorem dL_law_261 : decode cL_law 261 = .ok (.aload_n 0, 1) := dk_42 (dk_at dksL_law_10 15 rfl rfl)
theorem dL_law_262 : decode cL_law 262 = .ok (.iload_n 3, 1) := dk_29 (dk_at dksL_law_10 16 rfl rfl)
theorem dL_law_263 : decode cL_law 263 = .ok (.iconst 1, 1) := dk_4 (dk_at dksL_law_10 17 rfl rfl)
theorem dL_law_264 : decode cL_law 264 = .ok (.iadd, 1) := dk_96 (dk_at dksL_law_10 18 rfl rfl)
theorem dL_law_265 : decode cL_law 265 = .ok (.iaload, 1) := dk_46 (dk_at dksL_law_10 19 rfl rfl)
theorem dL_law_266 : decode cL_law 266 = .ok (.invokevirtual 42, 3) := dk_182 0 42 (dk_at dksL_law_10 20 rfl rfl)
theorem dL_law_269 : decode cL_law 269 = .ok (.if_icmp .eq 39, 3) := dk_159 0 39 (dk_at dksL_law_11 0 rfl rfl)
theorem dL_law_272 : decode cL_law 272 = .ok (.iconst 0, 1) := dk_3 (dk_at dksL_law_11 3 rfl rfl)
theorem dL_law_273 : decode cL_law 273 = .ok (.ireturn, 1) := dk_172 (dk_at dksL_law_11 4 rfl rfl)
theorem dL_law_274 : decode cL_law 274 = .ok (.aload_n 1, 1) := dk_43 (dk_at dksL_law_11 5 rfl rfl)
theorem dL_law_275 : decode cL_law 275 = .ok (.aload_n 0, 1) := dk_42 (dk_at dksL_law_11 6 rfl rfl)
theorem dL_law_276 : decode cL_law 276 = .ok (.iload_n 3, 1) := dk_29 (dk_at dksL_law_11 7 rfl rfl)
theorem dL_law_277 : decode cL_law 277 = .ok (.iconst 1, 1) := dk_4 (dk_at dksL_law_11 8 rfl rfl)
theorem dL_law_278 : decode cL_law 278 = .ok (.iadd, 1) := dk_96 (dk_at dksL_law_11 9 rfl rfl)
theorem dL_law_279 : decode cL_law 279 = .ok (.iaload, 1) := dk_46 (dk_at dksL_law_11 10 rfl rfl)
theorem dL_law_280 : decode cL_law 280 = .ok (.aload_n 0, 1) := dk_42 (dk_at dksL_law_11 11 rfl rfl)
theorem dL_law_281 : decode cL_law 281 = .ok (.iload_n 3, 1) := dk_29 (dk_at dksL_law_11 12 rfl rfl)
theorem dL_law_282 : decode cL_law 282 = .ok (.iconst 2, 1) := dk_5 (dk_at dksL_law_11 13 rfl rfl)
theorem dL_law_283 : decode cL_law 283 = .ok (.iadd, 1) := dk_96 (dk_at dksL_law_11 14 rfl rfl)
theorem dL_law_284 : decode cL_law 284 = .ok (.iaload, 1) := dk_46 (dk_at dksL_law_11 15 rfl rfl)
theorem dL_law_285 : decode cL_law 285 = .ok (.invokevirtual 43, 3) := dk_182 0 43 (dk_at dksL_law_11 16 rfl rfl)
theorem dL_law_288 : decode cL_law 288 = .ok (.aload_n 2, 1) := dk_44 (dk_at dksL_law_11 19 rfl rfl)
theorem dL_law_289 : decode cL_law 289 = .ok (.aload_n 0, 1) := dk_42 (dk_at dksL_law_11 20 rfl rfl)
theorem dL_law_290 : decode cL_law 290 = .ok (.iload_n 3, 1) := dk_29 (dk_at dksL_law_11 21 rfl rfl)
theorem dL_law_291 : decode cL_law 291 = .ok (.iconst 1, 1) := dk_4 (dk_at dksL_law_11 22 rfl rfl)
theorem dL_law_292 : decode cL_law 292 = .ok (.iadd, 1) := dk_96 (dk_at dksL_law_11 23 rfl rfl)
theorem dL_law_293 : decode cL_law 293 = .ok (.iaload, 1) := dk_46 (dk_at dksL_law_12 0 rfl rfl)
theorem dL_law_294 : decode cL_law 294 = .ok (.aload_n 0, 1) := dk_42 (dk_at dksL_law_12 1 rfl rfl)
theorem dL_law_295 : decode cL_law 295 = .ok (.iload_n 3, 1) := dk_29 (dk_at dksL_law_12 2 rfl rfl)
theorem dL_law_296 : decode cL_law 296 = .ok (.iconst 2, 1) := dk_5 (dk_at dksL_law_12 3 rfl rfl)
theorem dL_law_297 : decode cL_law 297 = .ok (.iadd, 1) := dk_96 (dk_at dksL_law_12 4 rfl rfl)
theorem dL_law_298 : decode cL_law 298 = .ok (.iaload, 1) := dk_46 (dk_at dksL_law_12 5 rfl rfl)
theorem dL_law_299 : decode cL_law 299 = .ok (.invokevirtual 46, 3) := dk_182 0 46 (dk_at dksL_law_12 6 rfl rfl)
theorem dL_law_302 : decode cL_law 302 = .ok (.lcmp, 1) := dk_148 (dk_at dksL_law_12 9 rfl rfl)
theorem dL_law_303 : decode cL_law 303 = .ok (.ifCond .eq 5, 3) := dk_153 0 5 (dk_at dksL_law_12 10 rfl rfl)
theorem dL_law_306 : decode cL_law 306 = .ok (.iconst 0, 1) := dk_3 (dk_at dksL_law_12 13 rfl rfl)
theorem dL_law_307 : decode cL_law 307 = .ok (.ireturn, 1) := dk_172 (dk_at dksL_law_12 14 rfl rfl)
theorem dL_law_308 : decode cL_law 308 = .ok (.iinc 3 6, 3) := dk_132 3 6 (dk_at dksL_law_12 15 rfl rfl)
theorem dL_law_311 : decode cL_law 311 = .ok (.goto (-293), 3) := dk_167 254 219 (dk_at dksL_law_12 18 rfl rfl)
theorem dL_law_314 : decode cL_law 314 = .ok (.iconst 1, 1) := dk_4 (dk_at dksL_law_12 21 rfl rfl)
theorem dL_law_315 : decode cL_law 315 = .ok (.ireturn, 1) := dk_172 (dk_at dksL_law_12 22 rfl rfl)
theorem q0 : (Jvm.Cond.initialized "MixDeskLaw") ∈ lw_all := lw_g (lw_at lw_m0 0 rfl) rfl
set_option maxRecDepth 100000
theorem q7 : (Jvm.Cond.classLink "MixDeskLaw" (7 : Nat) "MixDesk") ∈ lw_all := lw_g (lw_at lw_m0 7 rfl) rfl
theorem q9 : (Jvm.Cond.methodLink "MixDeskLaw" (9 : Nat) ({ cls := "MixDesk", name := "<init>", desc := "()V" } : Jvm.MethodName)) ∈ lw_all := lw_g (lw_at lw_m0 9 rfl) rfl
theorem q16 : (Jvm.Cond.methodLink "MixDeskLaw" (13 : Nat) ({ cls := "MixDesk", name := "mix", desc := "(I)I" } : Jvm.MethodName)) ∈ lw_all := lw_g (lw_at lw_m0 16 rfl) rfl
theorem q24 : (Jvm.Cond.methodLink "MixDeskLaw" (18 : Nat) ({ cls := "MixDesk", name := "back", desc := "(I)I" } : Jvm.MethodName)) ∈ lw_all := lw_g (lw_at lw_m0 24 rfl) rfl
theorem q32 : (Jvm.Cond.methodLink "MixDeskLaw" (22 : Nat) ({ cls := "MixDesk", name := "longMix", desc := "(II)J" } : Jvm.MethodName)) ∈ lw_all := lw_g (lw_at lw_m0 32 rfl) rfl
theorem q44 : (Jvm.Cond.methodLink "MixDeskLaw" (27 : Nat) ({ cls := "MixDesk", name := "longBack", desc := "(II)J" } : Jvm.MethodName)) ∈ lw_all := lw_g (lw_at lw_m0 44 rfl) rfl
theorem q52 : (Jvm.Cond.methodLink "MixDeskLaw" (31 : Nat) ({ cls := "MixDesk", name := "murmur", desc := "(I)I" } : Jvm.MethodName)) ∈ lw_all := lw_g (lw_at lw_m0 52 rfl) rfl
theorem q61 : (Jvm.Cond.methodLink "MixDeskLaw" (35 : Nat) ({ cls := "MixDesk", name := "longMurmur", desc := "(II)J" } : Jvm.MethodName)) ∈ lw_all := lw_g (lw_at lw_m0 61 rfl) rfl
theorem q70 : (Jvm.Cond.methodLink "MixDeskLaw" (39 : Nat) ({ cls := "MixDesk", name := "power", desc := "(I)I" } : Jvm.MethodName)) ∈ lw_all := lw_g (lw_at lw_m0 70 rfl) rfl
theorem q82 : (Jvm.Cond.methodLink "MixDeskLaw" (43 : Nat) ({ cls := "MixDesk", name := "longPower", desc := "(II)J" } : Jvm.MethodName)) ∈ lw_all := lw_g (lw_at lw_m0 82 rfl) rfl
theorem q94 : (Jvm.Cond.classLink "MixDeskLaw" (10 : Nat) "MixDeskModel") ∈ lw_all := lw_g (lw_at lw_m0 94 rfl) rfl
theorem q96 : (Jvm.Cond.methodLink "MixDeskLaw" (12 : Nat) ({ cls := "MixDeskModel", name := "<init>", desc := "()V" } : Jvm.MethodName)) ∈ lw_all := lw_g (lw_at lw_m0 96 rfl) rfl
theorem q101 : (Jvm.Cond.methodLink "MixDeskLaw" (17 : Nat) ({ cls := "MixDeskModel", name := "mix", desc := "(I)I" } : Jvm.MethodName)) ∈ lw_all := lw_g (lw_at lw_m0 101 rfl) rfl
theorem q106 : (Jvm.Cond.methodLink "MixDeskLaw" (21 : Nat) ({ cls := "MixDeskModel", name := "back", desc := "(I)I" } : Jvm.MethodName)) ∈ lw_all := lw_g (lw_at lw_m0 106 rfl) rfl
theorem q119 : (Jvm.Cond.methodLink "MixDeskLaw" (26 : Nat) ({ cls := "MixDeskModel", name := "longMix", desc := "(II)J" } : Jvm.MethodName)) ∈ lw_all := lw_g (lw_at lw_m0 119 rfl) rfl
theorem q128 : (Jvm.Cond.methodLink "MixDeskLaw" (30 : Nat) ({ cls := "MixDeskModel", name := "longBack", desc := "(II)J" } : Jvm.MethodName)) ∈ lw_all := lw_g (lw_at lw_m0 128 rfl) rfl
theorem q132 : (Jvm.Cond.methodLink "MixDeskLaw" (34 : Nat) ({ cls := "MixDeskModel", name := "murmur", desc := "(I)I" } : Jvm.MethodName)) ∈ lw_all := lw_g (lw_at lw_m0 132 rfl) rfl
theorem q138 : (Jvm.Cond.methodLink "MixDeskLaw" (38 : Nat) ({ cls := "MixDeskModel", name := "longMurmur", desc := "(II)J" } : Jvm.MethodName)) ∈ lw_all := lw_g (lw_at lw_m0 138 rfl) rfl
theorem q144 : (Jvm.Cond.methodLink "MixDeskLaw" (42 : Nat) ({ cls := "MixDeskModel", name := "power", desc := "(I)I" } : Jvm.MethodName)) ∈ lw_all := lw_g (lw_at lw_m0 144 rfl) rfl
theorem q149 : (Jvm.Cond.methodLink "MixDeskLaw" (46 : Nat) ({ cls := "MixDeskModel", name := "longPower", desc := "(II)J" } : Jvm.MethodName)) ∈ lw_all := lw_g (lw_at lw_m0 149 rfl) rfl
end
section
/-! THE PURE FUNCTIONS that the methods compute -/
/-- x >>> k of ints, of longs -/
def mz_u (x k : Int32) : Int32 := (x.toUInt32 >>> (k.toUInt32 &&& Int32.toUInt32 31)).toInt32
def mz_l (x : Int64) (k : Int32) : Int64 := (x.toUInt64 >>> (k.toInt64.toUInt64 &&& Int64.toUInt64 63)).toInt64
/-- x ^ x >>> k -/
def mz_x (x k : Int32) : Int32 := x ^^^ mz_u x k
def mz_y (x : Int64) (k : Int32) : Int64 := x ^^^ mz_l x k
/-- two ints as one long -/
def mz_w (h l : Int32) : Int64 := (Int32.toInt64 h) <<< ((Int32.toInt64 (32 : Int32)) &&& 63) ||| ((Int32.toInt64 l) &&& 4294967295)
def hc_mix (x : Int32) : Int32 := mz_x (x * (-1640531527)) 16
def hc_inv (x : Int32) : Int32 := mz_x x 16 * 340573321
def hc_mixL (x : Int64) : Int64 := mz_y (mz_y (x * (-7046029254386353131)) 32) 16
def hc_invL (x : Int64) : Int64 := mz_y (mz_y (mz_y x 32) 16) 32 * (-1018231460777725123)
def hc_mur (x : Int32) : Int32 := mz_x (mz_x (mz_x x 16 * (-2048144789)) 13 * (-1028477387)) 16
def hc_murL (x : Int64) : Int64 := mz_y (mz_y (mz_y x 33 * (-49064778989728563)) 33 * (-4265267296055464877)) 33
/-- Integer.numberOfLeadingZeros, stage by stage -/
def nz_4 (n x : Int32) : Int32 := n - mz_u x 1
def nz_3 (n x : Int32) : Int32 := if x < 4 then nz_4 n x else nz_4 (n + (-2)) (mz_u x 2)
def nz_2 (n x : Int32) : Int32 := if x < 16 then nz_3 n x else nz_3 (n + (-4)) (mz_u x 4)
def nz_1 (n x : Int32) : Int32 := if x < 256 then nz_2 n x else nz_2 (n + (-8)) (mz_u x 8)
def nz_0 (n x : Int32) : Int32 := if x < 65536 then nz_1 n x else nz_1 (n + (-16)) (mz_u x 16)
def nz_i (x : Int32) : Int32 := if 0 < x then nz_0 31 x else if x = 0 then 32 else 0
/-- Long.numberOfLeadingZeros -/
def nz_l (x : Int64) : Int32 := if Int64.toInt32 (mz_l x 32) = 0 then 32 + nz_i (Int64.toInt32 x) else nz_i (Int64.toInt32 (mz_l x 32))
theorem nz_l_ne {x : Int64} {i : Int32} (e : i = Int64.toInt32 (mz_l x 32)) (h : ¬ i = 0) : nz_i i = nz_l x := by
  rw [nz_l, ← e, if_neg h]
theorem nz_l_eq {x : Int64} {i : Int32} (e : i = Int64.toInt32 (mz_l x 32)) (h : i = 0) : 32 + nz_i (Int64.toInt32 x) = nz_l x := by
  rw [nz_l, ← e, if_pos h]
/-- next powers of two -/
def hc_pow (x : Int32) : Int32 := 1 <<< ((32 - nz_i (x - 1)) &&& 31)
def hc_powL (x : Int64) : Int64 := 1 <<< ((Int32.toInt64 (64 - nz_l (x - 1))) &&& 63)
/-- what the desks answer -/
def f_lmix (h l : Int32) : Int64 := hc_mixL (mz_w h l)
def f_lback (h l : Int32) : Int64 := hc_invL (mz_w h l)
def f_lmur (h l : Int32) : Int64 := hc_murL (mz_w h l)
def f_pow (x : Int32) : Int32 := hc_pow (x &&& 1073741823)
def f_lpow (h l : Int32) : Int64 := hc_powL (mz_w h l &&& 4611686018427387903)
/-- the model's loops, with fuel -/
def iv_go : Nat → Int64 → Int64 → Int32 → Option Int64
  | 0, _, its, k => if 6 ≤ k then some its else none
  | n + 1, odd, its, k => if 6 ≤ k then some its else iv_go n odd (its * (2 - odd * its)) (k + 1)
def us_go : Nat → Int64 → Int32 → Int32 → Int64 → Int32 → Option Int64
  | 0, _, _, bits, made, dn => if bits ≤ dn then some made else none
  | n + 1, its, sh, bits, made, dn => if bits ≤ dn then some made else us_go n its sh bits (its ^^^ mz_l made sh) (dn + sh)
def pw_go : Nat → Int32 → Int32 → Option Int32
  | 0, most, its => if most ≤ its then some its else none
  | n + 1, most, its => if most ≤ its then some its else pw_go n most (its + its)
def pl_go : Nat → Int64 → Int64 → Option Int64
  | 0, most, its => if most ≤ its then some its else none
  | n + 1, most, its => if most ≤ its then some its else pl_go n most (its + its)
end
section
section
variable {p : Program} {l : Launch} {e : Env} {R : Room} {s : State} {m : MethodId} {args : Array Value} {below : List Frame} {meth : Method} {c : Code} {H : Heap} {locs : List Loc} {cells slots : Nat} {Q : State → Prop}
set_option maxHeartbeats 4000000 in
set_option maxRecDepth 100000 in
theorem st_73 (hx : p.tables.exec = Jvm.exec) (hb : c.code = cJ0_numberOfLeadingZeros) {ls : Array Slot} {x n : Int32} (hl : lv_has ls 2 [(0, .int x), (1, .int n)]) (k : ∀ ls' : Array Slot, W p l e R s m args below meth c H locs cells slots Q (F0 m 78 ls' [.int (nz_4 n x)])) : W p l e R s m args below meth c H locs cells slots Q (F0 m 73 ls []) := by
  refine lv_iload_n hx hb dJ0_numberOfLeadingZeros_73 rfl (lv_at hl 1 rfl) ?_
  refine lv_iload_n hx hb dJ0_numberOfLeadingZeros_74 rfl (lv_at hl 0 rfl) ?_
  refine lv_iconst (v := 1) hx hb dJ0_numberOfLeadingZeros_75 (by decide) ?_
  refine lv_iushr (v := mz_u x 1) hx hb dJ0_numberOfLeadingZeros_76 rfl ?_
  refine lv_isub hx hb dJ0_numberOfLeadingZeros_77 ?_
  exact k ls
set_option maxHeartbeats 4000000 in
set_option maxRecDepth 100000 in
theorem st_61 (hx : p.tables.exec = Jvm.exec) (hb : c.code = cJ0_numberOfLeadingZeros) {ls : Array Slot} {x n : Int32} (hl : lv_has ls 2 [(0, .int x), (1, .int n)]) (k : ∀ ls' : Array Slot, W p l e R s m args below meth c H locs cells slots Q (F0 m 78 ls' [.int (nz_3 n x)])) : W p l e R s m args below meth c H locs cells slots Q (F0 m 61 ls []) := by
  refine lv_iload_n hx hb dJ0_numberOfLeadingZeros_61 rfl (lv_at hl 0 rfl) ?_
  refine lv_iconst (v := 4) hx hb dJ0_numberOfLeadingZeros_62 (by decide) ?_
  refine lv_icmp_lt (tgt := 73) hx hb dJ0_numberOfLeadingZeros_63 (by decide) (fun hc => ?_) (fun hc => ?_)
  · rw [show nz_3 n x = nz_4 n x from if_pos hc] at k
    exact st_73 hx hb hl k
  · rw [show nz_3 n x = nz_4 (n + (-2)) (mz_u x 2) from if_neg hc] at k
    obtain ⟨v_1, ev_1⟩ : ∃ y : Int32, y = n + (-2) := ⟨_, rfl⟩
    refine lv_iinc (v := v_1) (lv' := [(1, .int v_1), (0, .int x)]) hx hb dJ0_numberOfLeadingZeros_66 hl (k := 1) rfl (by rw [ev_1]; exact congrArg (fun z : Int32 => n + z) (show Int32.ofInt (-2) = (-2 : Int32) by decide)) (by decide) rfl (fun ls hl => ?_)
    refine lv_iload_n hx hb dJ0_numberOfLeadingZeros_69 rfl (lv_at hl 1 rfl) ?_
    refine lv_iconst (v := 2) hx hb dJ0_numberOfLeadingZeros_70 (by decide) ?_
    refine lv_iushr (v := mz_u x 2) hx hb dJ0_numberOfLeadingZeros_71 rfl ?_
    refine lv_topi (fun v_2 ev_2 => ?_)
    refine lv_istore_n (lv' := [(0, .int v_2), (1, .int v_1)]) hx hb dJ0_numberOfLeadingZeros_72 rfl hl (by decide) rfl (fun ls hl => ?_)
    rw [← ev_1, ← ev_2] at k
    exact st_73 hx hb (lv_sub hl [0, 1] rfl) k
set_option maxHeartbeats 4000000 in
set_option maxRecDepth 100000 in
theorem st_48 (hx : p.tables.exec = Jvm.exec) (hb : c.code = cJ0_numberOfLeadingZeros) {ls : Array Slot} {x n : Int32} (hl : lv_has ls 2 [(0, .int x), (1, .int n)]) (k : ∀ ls' : Array Slot, W p l e R s m args below meth c H locs cells slots Q (F0 m 78 ls' [.int (nz_2 n x)])) : W p l e R s m args below meth c H locs cells slots Q (F0 m 48 ls []) := by
  refine lv_iload_n hx hb dJ0_numberOfLeadingZeros_48 rfl (lv_at hl 0 rfl) ?_
  refine lv_bipush (v := 16) hx hb dJ0_numberOfLeadingZeros_49 (by decide) ?_
  refine lv_icmp_lt (tgt := 61) hx hb dJ0_numberOfLeadingZeros_51 (by decide) (fun hc => ?_) (fun hc => ?_)
  · rw [show nz_2 n x = nz_3 n x from if_pos hc] at k
    exact st_61 hx hb hl k
  · rw [show nz_2 n x = nz_3 (n + (-4)) (mz_u x 4) from if_neg hc] at k
    obtain ⟨v_1, ev_1⟩ : ∃ y : Int32, y = n + (-4) := ⟨_, rfl⟩
    refine lv_iinc (v := v_1) (lv' := [(1, .int v_1), (0, .int x)]) hx hb dJ0_numberOfLeadingZeros_54 hl (k := 1) rfl (by rw [ev_1]; exact congrArg (fun z : Int32 => n + z) (show Int32.ofInt (-4) = (-4 : Int32) by decide)) (by decide) rfl (fun ls hl => ?_)
    refine lv_iload_n hx hb dJ0_numberOfLeadingZeros_57 rfl (lv_at hl 1 rfl) ?_
    refine lv_iconst (v := 4) hx hb dJ0_numberOfLeadingZeros_58 (by decide) ?_
    refine lv_iushr (v := mz_u x 4) hx hb dJ0_numberOfLeadingZeros_59 rfl ?_
    refine lv_topi (fun v_2 ev_2 => ?_)
    refine lv_istore_n (lv' := [(0, .int v_2), (1, .int v_1)]) hx hb dJ0_numberOfLeadingZeros_60 rfl hl (by decide) rfl (fun ls hl => ?_)
    rw [← ev_1, ← ev_2] at k
    exact st_61 hx hb (lv_sub hl [0, 1] rfl) k
set_option maxHeartbeats 4000000 in
set_option maxRecDepth 100000 in
theorem st_33 (hx : p.tables.exec = Jvm.exec) (hb : c.code = cJ0_numberOfLeadingZeros) {ls : Array Slot} {x n : Int32} (hl : lv_has ls 2 [(0, .int x), (1, .int n)]) (k : ∀ ls' : Array Slot, W p l e R s m args below meth c H locs cells slots Q (F0 m 78 ls' [.int (nz_1 n x)])) : W p l e R s m args below meth c H locs cells slots Q (F0 m 33 ls []) := by
  refine lv_iload_n hx hb dJ0_numberOfLeadingZeros_33 rfl (lv_at hl 0 rfl) ?_
  refine lv_sipush (v := 256) hx hb dJ0_numberOfLeadingZeros_34 (by decide) ?_
  refine lv_icmp_lt (tgt := 48) hx hb dJ0_numberOfLeadingZeros_37 (by decide) (fun hc => ?_) (fun hc => ?_)
  · rw [show nz_1 n x = nz_2 n x from if_pos hc] at k
    exact st_48 hx hb hl k
  · rw [show nz_1 n x = nz_2 (n + (-8)) (mz_u x 8) from if_neg hc] at k
    obtain ⟨v_1, ev_1⟩ : ∃ y : Int32, y = n + (-8) := ⟨_, rfl⟩
    refine lv_iinc (v := v_1) (lv' := [(1, .int v_1), (0, .int x)]) hx hb dJ0_numberOfLeadingZeros_40 hl (k := 1) rfl (by rw [ev_1]; exact congrArg (fun z : Int32 => n + z) (show Int32.ofInt (-8) = (-8 : Int32) by decide)) (by decide) rfl (fun ls hl => ?_)
    refine lv_iload_n hx hb dJ0_numberOfLeadingZeros_43 rfl (lv_at hl 1 rfl) ?_
    refine lv_bipush (v := 8) hx hb dJ0_numberOfLeadingZeros_44 (by decide) ?_
    refine lv_iushr (v := mz_u x 8) hx hb dJ0_numberOfLeadingZeros_46 rfl ?_
    refine lv_topi (fun v_2 ev_2 => ?_)
    refine lv_istore_n (lv' := [(0, .int v_2), (1, .int v_1)]) hx hb dJ0_numberOfLeadingZeros_47 rfl hl (by decide) rfl (fun ls hl => ?_)
    rw [← ev_1, ← ev_2] at k
    exact st_48 hx hb (lv_sub hl [0, 1] rfl) k
set_option maxHeartbeats 4000000 in
set_option maxRecDepth 100000 in
theorem st_18 (hx : p.tables.exec = Jvm.exec) (hb : c.code = cJ0_numberOfLeadingZeros) (hown : s.vm.findClass RJ0 = some m.cls) (hts : ∀ w ∈ lw_all, w.before args s = true) {ls : Array Slot} {x n : Int32} (hl : lv_has ls 2 [(0, .int x), (1, .int n)]) (k : ∀ ls' : Array Slot, W p l e R s m args below meth c H locs cells slots Q (F0 m 78 ls' [.int (nz_0 n x)])) : W p l e R s m args below meth c H locs cells slots Q (F0 m 18 ls []) := by
  refine lv_iload_n hx hb dJ0_numberOfLeadingZeros_18 rfl (lv_at hl 0 rfl) ?_
  refine lv_ldcw (v := 65536) hx hb hown (hts _ q81) dJ0_numberOfLeadingZeros_19 ?_
  refine lv_icmp_lt (tgt := 33) hx hb dJ0_numberOfLeadingZeros_22 (by decide) (fun hc => ?_) (fun hc => ?_)
  · rw [show nz_0 n x = nz_1 n x from if_pos hc] at k
    exact st_33 hx hb hl k
  · rw [show nz_0 n x = nz_1 (n + (-16)) (mz_u x 16) from if_neg hc] at k
    obtain ⟨v_1, ev_1⟩ : ∃ y : Int32, y = n + (-16) := ⟨_, rfl⟩
    refine lv_iinc (v := v_1) (lv' := [(1, .int v_1), (0, .int x)]) hx hb dJ0_numberOfLeadingZeros_25 hl (k := 1) rfl (by rw [ev_1]; exact congrArg (fun z : Int32 => n + z) (show Int32.ofInt (-16) = (-16 : Int32) by decide)) (by decide) rfl (fun ls hl => ?_)
    refine lv_iload_n hx hb dJ0_numberOfLeadingZeros_28 rfl (lv_at hl 1 rfl) ?_
    refine lv_bipush (v := 16) hx hb dJ0_numberOfLeadingZeros_29 (by decide) ?_
    refine lv_iushr (v := mz_u x 16) hx hb dJ0_numberOfLeadingZeros_31 rfl ?_
    refine lv_topi (fun v_2 ev_2 => ?_)
    refine lv_istore_n (lv' := [(0, .int v_2), (1, .int v_1)]) hx hb dJ0_numberOfLeadingZeros_32 rfl hl (by decide) rfl (fun ls hl => ?_)
    rw [← ev_1, ← ev_2] at k
    exact st_33 hx hb (lv_sub hl [0, 1] rfl) k
end
set_option maxHeartbeats 4000000 in
set_option maxRecDepth 100000 in
/-- Integer.numberOfLeadingZeros -/
theorem mt_nlzI (l : Launch) (p0 : Int32) : Met l yJ0_numberOfLeadingZeros (ws_ yJ0_numberOfLeadingZeros cJ0_numberOfLeadingZeros 2 (some .int)) ({ frames := 0, cells := 0, slots := 0, locals := 0 }) (fun v _ => v = ([.int p0] : List Value).toArray) (vp_Si (fun r => r = nz_i p0)) 0 0 (fun _ => False) := by
  refine Met.ofW (cc := cJ0_numberOfLeadingZeros) (maxL := 2) (ret := (some .int)) (by decide) rfl ?_
  intro p e s m args below meth c s₁ B hml hv
  have hv : args = ([.int p0] : List Value).toArray := hv
  subst hv
  have hx := B.exec
  have hb := B.bytes
  have hr := B.returns
  have hts := atoms_spec (ws := ws_ yJ0_numberOfLeadingZeros cJ0_numberOfLeadingZeros 2 (some .int)) B.pre
  have hts : ∀ w ∈ lw_all, w.before _ s = true := fun w h => hts w (List.mem_cons_of_mem _ h)
  have hown : s.vm.findClass RJ0 = some m.cls := findClass_of_methodNamed B.named
  have hlocks := B.notSynchronized
  have hl := lv_entry ([.int p0]) (n := 2) (Nat.le_of_ble_eq_true rfl)
  rw [lg_entry_eq]
  generalize (lg_sl ([.int p0]) ++ List.replicate (2 - (lg_sl ([.int p0])).length) Slot.unset).toArray = ls at hl ⊢
  have hl : lv_has ls 2 [(0, .int p0)] := hl
  refine lv_iload_n hx hb dJ0_numberOfLeadingZeros_0 rfl (lv_at hl 0 rfl) ?_
  refine lv_if_gt (tgt := 15) hx hb dJ0_numberOfLeadingZeros_1 (by decide) (fun hc => ?_) (fun hc => ?_)
  · refine lv_bipush (v := 31) hx hb dJ0_numberOfLeadingZeros_15 (by decide) ?_
    refine lv_istore_n (lv' := [(1, .int 31), (0, .int p0)]) hx hb dJ0_numberOfLeadingZeros_17 rfl hl (by decide) rfl (fun ls hl => ?_)
    refine st_18 hx hb hown hts (lv_sub hl [1, 0] rfl) (fun ls => ?_)
    exact W.iret hx hb hr (fun t ht hW => ⟨_, rfl, (if_pos hc).symm, ht⟩) (fun q h => by cases h) dJ0_numberOfLeadingZeros_78
  · refine lv_iload_n hx hb dJ0_numberOfLeadingZeros_4 rfl (lv_at hl 0 rfl) ?_
    refine lv_if_ne (tgt := 13) hx hb dJ0_numberOfLeadingZeros_5 (by decide) (fun hd => ?_) (fun hd => ?_)
    · refine lv_iconst (v := 0) hx hb dJ0_numberOfLeadingZeros_13 (by decide) ?_
      exact W.iret (v := 0) hx hb hr (fun t ht hW => ⟨_, rfl, (by rw [nz_i, if_neg hc, if_neg hd]), ht⟩) (fun q h => by cases h) dJ0_numberOfLeadingZeros_14
    · refine lv_bipush (v := 32) hx hb dJ0_numberOfLeadingZeros_8 (by decide) ?_
      refine lv_goto (tgt := 14) hx hb dJ0_numberOfLeadingZeros_10 (by decide) ?_
      exact W.iret (v := 32) hx hb hr (fun t ht hW => ⟨_, rfl, (by rw [nz_i, if_neg hc, if_pos hd]), ht⟩) (fun q h => by cases h) dJ0_numberOfLeadingZeros_14
set_option maxHeartbeats 4000000 in
set_option maxRecDepth 100000 in
/-- Long.numberOfLeadingZeros -/
theorem mt_nlzL (l : Launch) (p0 : Int64) : Met l yJ1_numberOfLeadingZeros (ws_ yJ1_numberOfLeadingZeros cJ1_numberOfLeadingZeros 3 (some .int)) ({ frames := 1, cells := 0, slots := 0, locals := 21 }) (fun v _ => v = ([.long p0] : List Value).toArray) (vp_Si (fun r => r = nz_l p0)) 0 0 (fun _ => False) := by
  refine Met.ofW (cc := cJ1_numberOfLeadingZeros) (maxL := 3) (ret := (some .int)) (by decide) rfl ?_
  intro p e s m args below meth c s₁ B hml hv
  have hv : args = ([.long p0] : List Value).toArray := hv
  subst hv
  have hx := B.exec
  have hb := B.bytes
  have hr := B.returns
  have hts := atoms_spec (ws := ws_ yJ1_numberOfLeadingZeros cJ1_numberOfLeadingZeros 3 (some .int)) B.pre
  have hts : ∀ w ∈ lw_all, w.before _ s = true := fun w h => hts w (List.mem_cons_of_mem _ h)
  have hown : s.vm.findClass RJ1 = some m.cls := findClass_of_methodNamed B.named
  have hlocks := B.notSynchronized
  have hl := lv_entry ([.long p0]) (n := 3) (Nat.le_of_ble_eq_true rfl)
  rw [lg_entry_eq]
  generalize (lg_sl ([.long p0]) ++ List.replicate (3 - (lg_sl ([.long p0])).length) Slot.unset).toArray = ls at hl ⊢
  have hl : lv_has ls 3 [(0, .long p0)] := hl
  refine lv_lload_n hx hb dJ1_numberOfLeadingZeros_0 rfl (lv_at hl 0 rfl) ?_
  refine lv_bipush (v := 32) hx hb dJ1_numberOfLeadingZeros_1 (by decide) ?_
  refine lv_lushr (v := mz_l p0 32) hx hb dJ1_numberOfLeadingZeros_3 rfl ?_
  refine lv_l2i (v := Int64.toInt32 (mz_l p0 32)) hx hb dJ1_numberOfLeadingZeros_4 rfl ?_
  refine lv_topi (fun v_1 ev_1 => ?_)
  refine lv_istore_n (lv' := [(2, .int v_1), (0, .long p0)]) hx hb dJ1_numberOfLeadingZeros_5 rfl hl (by decide) rfl (fun ls hl => ?_)
  refine lv_iload_n hx hb dJ1_numberOfLeadingZeros_6 rfl (lv_at hl 0 rfl) ?_
  refine lv_if_ne (tgt := 21) hx hb dJ1_numberOfLeadingZeros_7 (by decide) (fun hd => ?_) (fun hd => ?_)
  · refine lv_iload_n hx hb dJ1_numberOfLeadingZeros_21 rfl (lv_at hl 0 rfl) ?_
    refine vp_callSi (W.runS (As := [.int v_1]) (rest := []) ⟨hx, hb, hml, hown, hts⟩ (mt_nlzI l v_1) (va_cwS 1 hts (lw_S q93 q79 q5 q80) rfl rfl rfl (by decide +kernel) ⟨Nat.le_of_ble_eq_true rfl, Nat.le_of_ble_eq_true rfl⟩) preEq rfl rfl hl.1 rfl (lv_room (Nat.le_of_ble_eq_true rfl)) dJ1_numberOfLeadingZeros_22 ⟨Nat.le_of_ble_eq_true rfl, Nat.le_of_ble_eq_true rfl⟩) (fun v_2 ev_2 => ?_)
    exact W.iret (v := v_2) hx hb hr (fun t ht hW => ⟨_, rfl, (by rw [ev_2]; exact nz_l_ne ev_1 hd), ht⟩) (fun q h => by cases h) dJ1_numberOfLeadingZeros_25
  · refine lv_bipush (v := 32) hx hb dJ1_numberOfLeadingZeros_10 (by decide) ?_
    refine lv_lload_n hx hb dJ1_numberOfLeadingZeros_12 rfl (lv_at hl 1 rfl) ?_
    refine lv_l2i (v := Int64.toInt32 p0) hx hb dJ1_numberOfLeadingZeros_13 rfl ?_
    refine vp_callSi (W.runS (As := [.int (Int64.toInt32 p0)]) (rest := [.int 32]) ⟨hx, hb, hml, hown, hts⟩ (mt_nlzI l (Int64.toInt32 p0)) (va_cwS 1 hts (lw_S q93 q79 q5 q80) rfl rfl rfl (by decide +kernel) ⟨Nat.le_of_ble_eq_true rfl, Nat.le_of_ble_eq_true rfl⟩) preEq rfl rfl hl.1 rfl (lv_room (Nat.le_of_ble_eq_true rfl)) dJ1_numberOfLeadingZeros_14 ⟨Nat.le_of_ble_eq_true rfl, Nat.le_of_ble_eq_true rfl⟩) (fun v_2 ev_2 => ?_)
    refine lv_iadd hx hb dJ1_numberOfLeadingZeros_17 ?_
    refine lv_goto (tgt := 25) hx hb dJ1_numberOfLeadingZeros_18 (by decide) ?_
    exact W.iret (v := 32 + v_2) hx hb hr (fun t ht hW => ⟨_, rfl, (by rw [ev_2]; exact nz_l_eq ev_1 hd), ht⟩) (fun q h => by cases h) dJ1_numberOfLeadingZeros_25
end
section
set_option maxHeartbeats 4000000 in
set_option maxRecDepth 100000 in
/-- HashCommon: ix -/
theorem mt_hmix (l : Launch) (p0 : Int32) : Met l yX2_mix (ws_ yX2_mix cX2_mix 2 (some .int)) ({ frames := 0, cells := 0, slots := 0, locals := 0 }) (fun v _ => v = ([.int p0] : List Value).toArray) (vp_Si (fun r => r = hc_mix p0)) 0 0 (fun _ => False) := by
  refine Met.ofW (cc := cX2_mix) (maxL := 2) (ret := (some .int)) (by decide) rfl ?_
  intro p e s m args below meth c s₁ B hml hv
  have hv : args = ([.int p0] : List Value).toArray := hv
  subst hv
  have hx := B.exec
  have hb := B.bytes
  have hr := B.returns
  have hts := atoms_spec (ws := ws_ yX2_mix cX2_mix 2 (some .int)) B.pre
  have hts : ∀ w ∈ lw_all, w.before _ s = true := fun w h => hts w (List.mem_cons_of_mem _ h)
  have hown : s.vm.findClass RX2 = some m.cls := findClass_of_methodNamed B.named
  have hlocks := B.notSynchronized
  have hl := lv_entry ([.int p0]) (n := 2) (Nat.le_of_ble_eq_true rfl)
  rw [lg_entry_eq]
  generalize (lg_sl ([.int p0]) ++ List.replicate (2 - (lg_sl ([.int p0])).length) Slot.unset).toArray = ls at hl ⊢
  have hl : lv_has ls 2 [(0, .int p0)] := hl
  refine lv_iload_n hx hb dX2_mix_0 rfl (lv_at hl 0 rfl) ?_
  refine lv_ldc (v := (-1640531527)) hx hb hown (hts _ q23) dX2_mix_1 ?_
  refine lv_imul hx hb dX2_mix_3 ?_
  refine lv_topi (fun v_1 ev_1 => ?_)
  refine lv_istore_n (lv' := [(1, .int v_1), (0, .int p0)]) hx hb dX2_mix_4 rfl hl (by decide) rfl (fun ls hl => ?_)
  refine lv_iload_n hx hb dX2_mix_5 rfl (lv_at hl 0 rfl) ?_
  refine lv_iload_n hx hb dX2_mix_6 rfl (lv_at hl 0 rfl) ?_
  refine lv_bipush (v := 16) hx hb dX2_mix_7 (by decide) ?_
  refine lv_iushr (v := mz_u v_1 16) hx hb dX2_mix_9 rfl ?_
  refine lv_ixor hx hb dX2_mix_10 ?_
  exact W.iret (v := v_1 ^^^ (mz_u v_1 16)) hx hb hr (fun t ht hW => ⟨_, rfl, by rw [ev_1] <;> first | rfl | simp only [hc_mix, mz_x, mz_y], ht⟩) (fun q h => by cases h) dX2_mix_11
set_option maxHeartbeats 4000000 in
set_option maxRecDepth 100000 in
/-- HashCommon: nvMix -/
theorem mt_hinv (l : Launch) (p0 : Int32) : Met l yX2_invMix (ws_ yX2_invMix cX2_invMix 1 (some .int)) ({ frames := 0, cells := 0, slots := 0, locals := 0 }) (fun v _ => v = ([.int p0] : List Value).toArray) (vp_Si (fun r => r = hc_inv p0)) 0 0 (fun _ => False) := by
  refine Met.ofW (cc := cX2_invMix) (maxL := 1) (ret := (some .int)) (by decide) rfl ?_
  intro p e s m args below meth c s₁ B hml hv
  have hv : args = ([.int p0] : List Value).toArray := hv
  subst hv
  have hx := B.exec
  have hb := B.bytes
  have hr := B.returns
  have hts := atoms_spec (ws := ws_ yX2_invMix cX2_invMix 1 (some .int)) B.pre
  have hts : ∀ w ∈ lw_all, w.before _ s = true := fun w h => hts w (List.mem_cons_of_mem _ h)
  have hown : s.vm.findClass RX2 = some m.cls := findClass_of_methodNamed B.named
  have hlocks := B.notSynchronized
  have hl := lv_entry ([.int p0]) (n := 1) (Nat.le_of_ble_eq_true rfl)
  rw [lg_entry_eq]
  generalize (lg_sl ([.int p0]) ++ List.replicate (1 - (lg_sl ([.int p0])).length) Slot.unset).toArray = ls at hl ⊢
  have hl : lv_has ls 1 [(0, .int p0)] := hl
  refine lv_iload_n hx hb dX2_invMix_0 rfl (lv_at hl 0 rfl) ?_
  refine lv_iload_n hx hb dX2_invMix_1 rfl (lv_at hl 0 rfl) ?_
  refine lv_bipush (v := 16) hx hb dX2_invMix_2 (by decide) ?_
  refine lv_iushr (v := mz_u p0 16) hx hb dX2_invMix_4 rfl ?_
  refine lv_ixor hx hb dX2_invMix_5 ?_
  refine lv_ldc (v := 340573321) hx hb hown (hts _ q31) dX2_invMix_6 ?_
  refine lv_imul hx hb dX2_invMix_8 ?_
  exact W.iret (v := (p0 ^^^ (mz_u p0 16)) * 340573321) hx hb hr (fun t ht hW => ⟨_, rfl, by first | rfl | simp only [hc_inv, mz_x, mz_y], ht⟩) (fun q h => by cases h) dX2_invMix_9
set_option maxHeartbeats 4000000 in
set_option maxRecDepth 100000 in
/-- HashCommon: ix_2 -/
theorem mt_hmixL (l : Launch) (p0 : Int64) : Met l yX2_mix_2 (ws_ yX2_mix_2 cX2_mix_2 4 (some .long)) ({ frames := 0, cells := 0, slots := 0, locals := 0 }) (fun v _ => v = ([.long p0] : List Value).toArray) (vp_Sl (fun r => r = hc_mixL p0)) 0 0 (fun _ => False) := by
  refine Met.ofW (cc := cX2_mix_2) (maxL := 4) (ret := (some .long)) (by decide) rfl ?_
  intro p e s m args below meth c s₁ B hml hv
  have hv : args = ([.long p0] : List Value).toArray := hv
  subst hv
  have hx := B.exec
  have hb := B.bytes
  have hr := B.returns
  have hts := atoms_spec (ws := ws_ yX2_mix_2 cX2_mix_2 4 (some .long)) B.pre
  have hts : ∀ w ∈ lw_all, w.before _ s = true := fun w h => hts w (List.mem_cons_of_mem _ h)
  have hown : s.vm.findClass RX2 = some m.cls := findClass_of_methodNamed B.named
  have hlocks := B.notSynchronized
  have hl := lv_entry ([.long p0]) (n := 4) (Nat.le_of_ble_eq_true rfl)
  rw [lg_entry_eq]
  generalize (lg_sl ([.long p0]) ++ List.replicate (4 - (lg_sl ([.long p0])).length) Slot.unset).toArray = ls at hl ⊢
  have hl : lv_has ls 4 [(0, .long p0)] := hl
  refine lv_lload_n hx hb dX2_mix_2_0 rfl (lv_at hl 0 rfl) ?_
  refine lv_ldc2 (v := (-7046029254386353131)) hx hb hown (hts _ q43) dX2_mix_2_1 ?_
  refine lv_lmul hx hb dX2_mix_2_4 ?_
  refine lv_topl (fun v_1 ev_1 => ?_)
  refine lv_lstore_n (lv' := [(2, .long v_1), (0, .long p0)]) hx hb dX2_mix_2_5 rfl hl (by decide) rfl (fun ls hl => ?_)
  refine lv_lload_n hx hb dX2_mix_2_6 rfl (lv_at hl 0 rfl) ?_
  refine lv_lload_n hx hb dX2_mix_2_7 rfl (lv_at hl 0 rfl) ?_
  refine lv_bipush (v := 32) hx hb dX2_mix_2_8 (by decide) ?_
  refine lv_lushr (v := mz_l v_1 32) hx hb dX2_mix_2_10 rfl ?_
  refine lv_lxor hx hb dX2_mix_2_11 ?_
  refine lv_topl (fun v_2 ev_2 => ?_)
  refine lv_lstore_n (lv' := [(2, .long v_2), (0, .long p0)]) hx hb dX2_mix_2_12 rfl hl (by decide) rfl (fun ls hl => ?_)
  refine lv_lload_n hx hb dX2_mix_2_13 rfl (lv_at hl 0 rfl) ?_
  refine lv_lload_n hx hb dX2_mix_2_14 rfl (lv_at hl 0 rfl) ?_
  refine lv_bipush (v := 16) hx hb dX2_mix_2_15 (by decide) ?_
  refine lv_lushr (v := mz_l v_2 16) hx hb dX2_mix_2_17 rfl ?_
  refine lv_lxor hx hb dX2_mix_2_18 ?_
  exact W.lret (v := v_2 ^^^ (mz_l v_2 16)) hx hb hr (fun t ht hW => ⟨_, rfl, by rw [ev_2, ev_1] <;> first | rfl | simp only [hc_mixL, mz_x, mz_y], ht⟩) (fun q h => by cases h) dX2_mix_2_19
set_option maxHeartbeats 4000000 in
set_option maxRecDepth 100000 in
/-- HashCommon: nvMix_2 -/
theorem mt_hinvL (l : Launch) (p0 : Int64) : Met l yX2_invMix_2 (ws_ yX2_invMix_2 cX2_invMix_2 2 (some .long)) ({ frames := 0, cells := 0, slots := 0, locals := 0 }) (fun v _ => v = ([.long p0] : List Value).toArray) (vp_Sl (fun r => r = hc_invL p0)) 0 0 (fun _ => False) := by
  refine Met.ofW (cc := cX2_invMix_2) (maxL := 2) (ret := (some .long)) (by decide) rfl ?_
  intro p e s m args below meth c s₁ B hml hv
  have hv : args = ([.long p0] : List Value).toArray := hv
  subst hv
  have hx := B.exec
  have hb := B.bytes
  have hr := B.returns
  have hts := atoms_spec (ws := ws_ yX2_invMix_2 cX2_invMix_2 2 (some .long)) B.pre
  have hts : ∀ w ∈ lw_all, w.before _ s = true := fun w h => hts w (List.mem_cons_of_mem _ h)
  have hown : s.vm.findClass RX2 = some m.cls := findClass_of_methodNamed B.named
  have hlocks := B.notSynchronized
  have hl := lv_entry ([.long p0]) (n := 2) (Nat.le_of_ble_eq_true rfl)
  rw [lg_entry_eq]
  generalize (lg_sl ([.long p0]) ++ List.replicate (2 - (lg_sl ([.long p0])).length) Slot.unset).toArray = ls at hl ⊢
  have hl : lv_has ls 2 [(0, .long p0)] := hl
  refine lv_lload_n hx hb dX2_invMix_2_0 rfl (lv_at hl 0 rfl) ?_
  refine lv_lload_n hx hb dX2_invMix_2_1 rfl (lv_at hl 0 rfl) ?_
  refine lv_bipush (v := 32) hx hb dX2_invMix_2_2 (by decide) ?_
  refine lv_lushr (v := mz_l p0 32) hx hb dX2_invMix_2_4 rfl ?_
  refine lv_lxor hx hb dX2_invMix_2_5 ?_
  refine lv_topl (fun v_1 ev_1 => ?_)
  refine lv_lstore_n (lv' := [(0, .long v_1)]) hx hb dX2_invMix_2_6 rfl hl (by decide) rfl (fun ls hl => ?_)
  refine lv_lload_n hx hb dX2_invMix_2_7 rfl (lv_at hl 0 rfl) ?_
  refine lv_lload_n hx hb dX2_invMix_2_8 rfl (lv_at hl 0 rfl) ?_
  refine lv_bipush (v := 16) hx hb dX2_invMix_2_9 (by decide) ?_
  refine lv_lushr (v := mz_l v_1 16) hx hb dX2_invMix_2_11 rfl ?_
  refine lv_lxor hx hb dX2_invMix_2_12 ?_
  refine lv_topl (fun v_2 ev_2 => ?_)
  refine lv_lstore_n (lv' := [(0, .long v_2)]) hx hb dX2_invMix_2_13 rfl hl (by decide) rfl (fun ls hl => ?_)
  refine lv_lload_n hx hb dX2_invMix_2_14 rfl (lv_at hl 0 rfl) ?_
  refine lv_lload_n hx hb dX2_invMix_2_15 rfl (lv_at hl 0 rfl) ?_
  refine lv_bipush (v := 32) hx hb dX2_invMix_2_16 (by decide) ?_
  refine lv_lushr (v := mz_l v_2 32) hx hb dX2_invMix_2_18 rfl ?_
  refine lv_lxor hx hb dX2_invMix_2_19 ?_
  refine lv_ldc2 (v := (-1018231460777725123)) hx hb hown (hts _ q51) dX2_invMix_2_20 ?_
  refine lv_lmul hx hb dX2_invMix_2_23 ?_
  exact W.lret (v := (v_2 ^^^ (mz_l v_2 32)) * (-1018231460777725123)) hx hb hr (fun t ht hW => ⟨_, rfl, by rw [ev_2, ev_1] <;> first | rfl | simp only [hc_invL, mz_x, mz_y], ht⟩) (fun q h => by cases h) dX2_invMix_2_24
set_option maxHeartbeats 4000000 in
set_option maxRecDepth 100000 in
/-- HashCommon: urmurHash3 -/
theorem mt_hmur (l : Launch) (p0 : Int32) : Met l yX2_murmurHash3 (ws_ yX2_murmurHash3 cX2_murmurHash3 1 (some .int)) ({ frames := 0, cells := 0, slots := 0, locals := 0 }) (fun v _ => v = ([.int p0] : List Value).toArray) (vp_Si (fun r => r = hc_mur p0)) 0 0 (fun _ => False) := by
  refine Met.ofW (cc := cX2_murmurHash3) (maxL := 1) (ret := (some .int)) (by decide) rfl ?_
  intro p e s m args below meth c s₁ B hml hv
  have hv : args = ([.int p0] : List Value).toArray := hv
  subst hv
  have hx := B.exec
  have hb := B.bytes
  have hr := B.returns
  have hts := atoms_spec (ws := ws_ yX2_murmurHash3 cX2_murmurHash3 1 (some .int)) B.pre
  have hts : ∀ w ∈ lw_all, w.before _ s = true := fun w h => hts w (List.mem_cons_of_mem _ h)
  have hown : s.vm.findClass RX2 = some m.cls := findClass_of_methodNamed B.named
  have hlocks := B.notSynchronized
  have hl := lv_entry ([.int p0]) (n := 1) (Nat.le_of_ble_eq_true rfl)
  rw [lg_entry_eq]
  generalize (lg_sl ([.int p0]) ++ List.replicate (1 - (lg_sl ([.int p0])).length) Slot.unset).toArray = ls at hl ⊢
  have hl : lv_has ls 1 [(0, .int p0)] := hl
  refine lv_iload_n hx hb dX2_murmurHash3_0 rfl (lv_at hl 0 rfl) ?_
  refine lv_iload_n hx hb dX2_murmurHash3_1 rfl (lv_at hl 0 rfl) ?_
  refine lv_bipush (v := 16) hx hb dX2_murmurHash3_2 (by decide) ?_
  refine lv_iushr (v := mz_u p0 16) hx hb dX2_murmurHash3_4 rfl ?_
  refine lv_ixor hx hb dX2_murmurHash3_5 ?_
  refine lv_topi (fun v_1 ev_1 => ?_)
  refine lv_istore_n (lv' := [(0, .int v_1)]) hx hb dX2_murmurHash3_6 rfl hl (by decide) rfl (fun ls hl => ?_)
  refine lv_iload_n hx hb dX2_murmurHash3_7 rfl (lv_at hl 0 rfl) ?_
  refine lv_ldc (v := (-2048144789)) hx hb hown (hts _ q59) dX2_murmurHash3_8 ?_
  refine lv_imul hx hb dX2_murmurHash3_10 ?_
  refine lv_topi (fun v_2 ev_2 => ?_)
  refine lv_istore_n (lv' := [(0, .int v_2)]) hx hb dX2_murmurHash3_11 rfl hl (by decide) rfl (fun ls hl => ?_)
  refine lv_iload_n hx hb dX2_murmurHash3_12 rfl (lv_at hl 0 rfl) ?_
  refine lv_iload_n hx hb dX2_murmurHash3_13 rfl (lv_at hl 0 rfl) ?_
  refine lv_bipush (v := 13) hx hb dX2_murmurHash3_14 (by decide) ?_
  refine lv_iushr (v := mz_u v_2 13) hx hb dX2_murmurHash3_16 rfl ?_
  refine lv_ixor hx hb dX2_murmurHash3_17 ?_
  refine lv_topi (fun v_3 ev_3 => ?_)
  refine lv_istore_n (lv' := [(0, .int v_3)]) hx hb dX2_murmurHash3_18 rfl hl (by decide) rfl (fun ls hl => ?_)
  refine lv_iload_n hx hb dX2_murmurHash3_19 rfl (lv_at hl 0 rfl) ?_
  refine lv_ldc (v := (-1028477387)) hx hb hown (hts _ q60) dX2_murmurHash3_20 ?_
  refine lv_imul hx hb dX2_murmurHash3_22 ?_
  refine lv_topi (fun v_4 ev_4 => ?_)
  refine lv_istore_n (lv' := [(0, .int v_4)]) hx hb dX2_murmurHash3_23 rfl hl (by decide) rfl (fun ls hl => ?_)
  refine lv_iload_n hx hb dX2_murmurHash3_24 rfl (lv_at hl 0 rfl) ?_
  refine lv_iload_n hx hb dX2_murmurHash3_25 rfl (lv_at hl 0 rfl) ?_
  refine lv_bipush (v := 16) hx hb dX2_murmurHash3_26 (by decide) ?_
  refine lv_iushr (v := mz_u v_4 16) hx hb dX2_murmurHash3_28 rfl ?_
  refine lv_ixor hx hb dX2_murmurHash3_29 ?_
  refine lv_topi (fun v_5 ev_5 => ?_)
  refine lv_istore_n (lv' := [(0, .int v_5)]) hx hb dX2_murmurHash3_30 rfl hl (by decide) rfl (fun ls hl => ?_)
  refine lv_iload_n hx hb dX2_murmurHash3_31 rfl (lv_at hl 0 rfl) ?_
  exact W.iret (v := v_5) hx hb hr (fun t ht hW => ⟨_, rfl, by rw [ev_5, ev_4, ev_3, ev_2, ev_1] <;> first | rfl | simp only [hc_mur, mz_x, mz_y], ht⟩) (fun q h => by cases h) dX2_murmurHash3_32
set_option maxHeartbeats 4000000 in
set_option maxRecDepth 100000 in
/-- HashCommon: urmurHash3_2 -/
theorem mt_hmurL (l : Launch) (p0 : Int64) : Met l yX2_murmurHash3_2 (ws_ yX2_murmurHash3_2 cX2_murmurHash3_2 2 (some .long)) ({ frames := 0, cells := 0, slots := 0, locals := 0 }) (fun v _ => v = ([.long p0] : List Value).toArray) (vp_Sl (fun r => r = hc_murL p0)) 0 0 (fun _ => False) := by
  refine Met.ofW (cc := cX2_murmurHash3_2) (maxL := 2) (ret := (some .long)) (by decide) rfl ?_
  intro p e s m args below meth c s₁ B hml hv
  have hv : args = ([.long p0] : List Value).toArray := hv
  subst hv
  have hx := B.exec
  have hb := B.bytes
  have hr := B.returns
  have hts := atoms_spec (ws := ws_ yX2_murmurHash3_2 cX2_murmurHash3_2 2 (some .long)) B.pre
  have hts : ∀ w ∈ lw_all, w.before _ s = true := fun w h => hts w (List.mem_cons_of_mem _ h)
  have hown : s.vm.findClass RX2 = some m.cls := findClass_of_methodNamed B.named
  have hlocks := B.notSynchronized
  have hl := lv_entry ([.long p0]) (n := 2) (Nat.le_of_ble_eq_true rfl)
  rw [lg_entry_eq]
  generalize (lg_sl ([.long p0]) ++ List.replicate (2 - (lg_sl ([.long p0])).length) Slot.unset).toArray = ls at hl ⊢
  have hl : lv_has ls 2 [(0, .long p0)] := hl
  refine lv_lload_n hx hb dX2_murmurHash3_2_0 rfl (lv_at hl 0 rfl) ?_
  refine lv_lload_n hx hb dX2_murmurHash3_2_1 rfl (lv_at hl 0 rfl) ?_
  refine lv_bipush (v := 33) hx hb dX2_murmurHash3_2_2 (by decide) ?_
  refine lv_lushr (v := mz_l p0 33) hx hb dX2_murmurHash3_2_4 rfl ?_
  refine lv_lxor hx hb dX2_murmurHash3_2_5 ?_
  refine lv_topl (fun v_1 ev_1 => ?_)
  refine lv_lstore_n (lv' := [(0, .long v_1)]) hx hb dX2_murmurHash3_2_6 rfl hl (by decide) rfl (fun ls hl => ?_)
  refine lv_lload_n hx hb dX2_murmurHash3_2_7 rfl (lv_at hl 0 rfl) ?_
  refine lv_ldc2 (v := (-49064778989728563)) hx hb hown (hts _ q68) dX2_murmurHash3_2_8 ?_
  refine lv_lmul hx hb dX2_murmurHash3_2_11 ?_
  refine lv_topl (fun v_2 ev_2 => ?_)
  refine lv_lstore_n (lv' := [(0, .long v_2)]) hx hb dX2_murmurHash3_2_12 rfl hl (by decide) rfl (fun ls hl => ?_)
  refine lv_lload_n hx hb dX2_murmurHash3_2_13 rfl (lv_at hl 0 rfl) ?_
  refine lv_lload_n hx hb dX2_murmurHash3_2_14 rfl (lv_at hl 0 rfl) ?_
  refine lv_bipush (v := 33) hx hb dX2_murmurHash3_2_15 (by decide) ?_
  refine lv_lushr (v := mz_l v_2 33) hx hb dX2_murmurHash3_2_17 rfl ?_
  refine lv_lxor hx hb dX2_murmurHash3_2_18 ?_
  refine lv_topl (fun v_3 ev_3 => ?_)
  refine lv_lstore_n (lv' := [(0, .long v_3)]) hx hb dX2_murmurHash3_2_19 rfl hl (by decide) rfl (fun ls hl => ?_)
  refine lv_lload_n hx hb dX2_murmurHash3_2_20 rfl (lv_at hl 0 rfl) ?_
  refine lv_ldc2 (v := (-4265267296055464877)) hx hb hown (hts _ q69) dX2_murmurHash3_2_21 ?_
  refine lv_lmul hx hb dX2_murmurHash3_2_24 ?_
  refine lv_topl (fun v_4 ev_4 => ?_)
  refine lv_lstore_n (lv' := [(0, .long v_4)]) hx hb dX2_murmurHash3_2_25 rfl hl (by decide) rfl (fun ls hl => ?_)
  refine lv_lload_n hx hb dX2_murmurHash3_2_26 rfl (lv_at hl 0 rfl) ?_
  refine lv_lload_n hx hb dX2_murmurHash3_2_27 rfl (lv_at hl 0 rfl) ?_
  refine lv_bipush (v := 33) hx hb dX2_murmurHash3_2_28 (by decide) ?_
  refine lv_lushr (v := mz_l v_4 33) hx hb dX2_murmurHash3_2_30 rfl ?_
  refine lv_lxor hx hb dX2_murmurHash3_2_31 ?_
  refine lv_topl (fun v_5 ev_5 => ?_)
  refine lv_lstore_n (lv' := [(0, .long v_5)]) hx hb dX2_murmurHash3_2_32 rfl hl (by decide) rfl (fun ls hl => ?_)
  refine lv_lload_n hx hb dX2_murmurHash3_2_33 rfl (lv_at hl 0 rfl) ?_
  exact W.lret (v := v_5) hx hb hr (fun t ht hW => ⟨_, rfl, by rw [ev_5, ev_4, ev_3, ev_2, ev_1] <;> first | rfl | simp only [hc_murL, mz_x, mz_y], ht⟩) (fun q h => by cases h) dX2_murmurHash3_2_34
set_option maxHeartbeats 4000000 in
set_option maxRecDepth 100000 in
/-- HashCommon: extPowerOfTwo -/
theorem mt_hpow (l : Launch) (p0 : Int32) : Met l yX2_nextPowerOfTwo (ws_ yX2_nextPowerOfTwo cX2_nextPowerOfTwo 1 (some .int)) ({ frames := 1, cells := 0, slots := 0, locals := 21 }) (fun v _ => v = ([.int p0] : List Value).toArray) (vp_Si (fun r => r = hc_pow p0)) 0 0 (fun _ => False) := by
  refine Met.ofW (cc := cX2_nextPowerOfTwo) (maxL := 1) (ret := (some .int)) (by decide) rfl ?_
  intro p e s m args below meth c s₁ B hml hv
  have hv : args = ([.int p0] : List Value).toArray := hv
  subst hv
  have hx := B.exec
  have hb := B.bytes
  have hr := B.returns
  have hts := atoms_spec (ws := ws_ yX2_nextPowerOfTwo cX2_nextPowerOfTwo 1 (some .int)) B.pre
  have hts : ∀ w ∈ lw_all, w.before _ s = true := fun w h => hts w (List.mem_cons_of_mem _ h)
  have hown : s.vm.findClass RX2 = some m.cls := findClass_of_methodNamed B.named
  have hlocks := B.notSynchronized
  have hl := lv_entry ([.int p0]) (n := 1) (Nat.le_of_ble_eq_true rfl)
  rw [lg_entry_eq]
  generalize (lg_sl ([.int p0]) ++ List.replicate (1 - (lg_sl ([.int p0])).length) Slot.unset).toArray = ls at hl ⊢
  have hl : lv_has ls 1 [(0, .int p0)] := hl
  refine lv_iconst (v := 1) hx hb dX2_nextPowerOfTwo_0 (by decide) ?_
  refine lv_bipush (v := 32) hx hb dX2_nextPowerOfTwo_1 (by decide) ?_
  refine lv_iload_n hx hb dX2_nextPowerOfTwo_3 rfl (lv_at hl 0 rfl) ?_
  refine lv_iconst (v := 1) hx hb dX2_nextPowerOfTwo_4 (by decide) ?_
  refine lv_isub hx hb dX2_nextPowerOfTwo_5 ?_
  refine vp_callSi (W.runS (As := [.int (p0 - 1)]) (rest := [.int 32, .int 1]) ⟨hx, hb, hml, hown, hts⟩ (mt_nlzI l (p0 - 1)) (va_cwS 1 hts (lw_S q78 q79 q5 q80) rfl rfl rfl (by decide +kernel) ⟨Nat.le_of_ble_eq_true rfl, Nat.le_of_ble_eq_true rfl⟩) preEq rfl rfl hl.1 rfl (lv_room (Nat.le_of_ble_eq_true rfl)) dX2_nextPowerOfTwo_6 ⟨Nat.le_of_ble_eq_true rfl, Nat.le_of_ble_eq_true rfl⟩) (fun v_1 ev_1 => ?_)
  refine lv_isub hx hb dX2_nextPowerOfTwo_9 ?_
  refine lv_ishl hx hb dX2_nextPowerOfTwo_10 ?_
  exact W.iret (v := 1 <<< ((32 - v_1) &&& 31)) hx hb hr (fun t ht hW => ⟨_, rfl, by rw [ev_1] <;> first | rfl | simp only [hc_pow, mz_x, mz_y], ht⟩) (fun q h => by cases h) dX2_nextPowerOfTwo_11
set_option maxHeartbeats 4000000 in
set_option maxRecDepth 100000 in
/-- HashCommon: extPowerOfTwo_2 -/
theorem mt_hpowL (l : Launch) (p0 : Int64) : Met l yX2_nextPowerOfTwo_2 (ws_ yX2_nextPowerOfTwo_2 cX2_nextPowerOfTwo_2 2 (some .long)) ({ frames := 2, cells := 0, slots := 0, locals := 43 }) (fun v _ => v = ([.long p0] : List Value).toArray) (vp_Sl (fun r => r = hc_powL p0)) 0 0 (fun _ => False) := by
  refine Met.ofW (cc := cX2_nextPowerOfTwo_2) (maxL := 2) (ret := (some .long)) (by decide) rfl ?_
  intro p e s m args below meth c s₁ B hml hv
  have hv : args = ([.long p0] : List Value).toArray := hv
  subst hv
  have hx := B.exec
  have hb := B.bytes
  have hr := B.returns
  have hts := atoms_spec (ws := ws_ yX2_nextPowerOfTwo_2 cX2_nextPowerOfTwo_2 2 (some .long)) B.pre
  have hts : ∀ w ∈ lw_all, w.before _ s = true := fun w h => hts w (List.mem_cons_of_mem _ h)
  have hown : s.vm.findClass RX2 = some m.cls := findClass_of_methodNamed B.named
  have hlocks := B.notSynchronized
  have hl := lv_entry ([.long p0]) (n := 2) (Nat.le_of_ble_eq_true rfl)
  rw [lg_entry_eq]
  generalize (lg_sl ([.long p0]) ++ List.replicate (2 - (lg_sl ([.long p0])).length) Slot.unset).toArray = ls at hl ⊢
  have hl : lv_has ls 2 [(0, .long p0)] := hl
  refine lv_lconst (v := 1) hx hb dX2_nextPowerOfTwo_2_0 (by decide) ?_
  refine lv_bipush (v := 64) hx hb dX2_nextPowerOfTwo_2_1 (by decide) ?_
  refine lv_lload_n hx hb dX2_nextPowerOfTwo_2_3 rfl (lv_at hl 0 rfl) ?_
  refine lv_lconst (v := 1) hx hb dX2_nextPowerOfTwo_2_4 (by decide) ?_
  refine lv_lsub hx hb dX2_nextPowerOfTwo_2_5 ?_
  refine vp_callSi (W.runS (As := [.long (p0 - 1)]) (rest := [.int 64, .long 1]) ⟨hx, hb, hml, hown, hts⟩ (mt_nlzL l (p0 - 1)) (va_cwS 1 hts (lw_S q90 q91 q6 q92) rfl rfl rfl (by decide +kernel) ⟨Nat.le_of_ble_eq_true rfl, Nat.le_of_ble_eq_true rfl⟩) preEq rfl rfl hl.1 rfl (lv_room (Nat.le_of_ble_eq_true rfl)) dX2_nextPowerOfTwo_2_6 ⟨Nat.le_of_ble_eq_true rfl, Nat.le_of_ble_eq_true rfl⟩) (fun v_1 ev_1 => ?_)
  refine lv_isub hx hb dX2_nextPowerOfTwo_2_9 ?_
  refine lv_lshl (v := 1 <<< ((Int32.toInt64 (64 - v_1)) &&& 63)) hx hb dX2_nextPowerOfTwo_2_10 rfl ?_
  exact W.lret (v := 1 <<< ((Int32.toInt64 (64 - v_1)) &&& 63)) hx hb hr (fun t ht hW => ⟨_, rfl, by rw [ev_1] <;> first | rfl | simp only [hc_powL, mz_x, mz_y], ht⟩) (fun q h => by cases h) dX2_nextPowerOfTwo_2_11
end
section
/-! ROWS OF kit/laws/BITS (starting text): longs and ints as natural numbers -/
theorem wb_tb (n : Nat) : (lN n).toBitVec = BitVec.ofNat 64 n := rfl
theorem wb_inj {a b : Int64} (h : a.toBitVec = b.toBitVec) : a = b := Int64.toBitVec_inj.mp h
theorem wb_tn {n : Nat} (h : n < 2 ^ 64) : (lN n).toBitVec.toNat = n := by rw [wb_tb, BitVec.toNat_ofNat, Nat.mod_eq_of_lt h]
theorem wb_of (x : Int64) : ∃ n, n < 2 ^ 64 ∧ x = lN n := ⟨x.toBitVec.toNat, x.toBitVec.isLt, wb_inj (by rw [wb_tb]; simp)⟩
theorem wb_of32 (x : Int32) : ∃ n, n < 2 ^ 32 ∧ x = nI n := ⟨x.toBitVec.toNat, x.toBitVec.isLt, Int32.toBitVec_inj.mp (by show _ = BitVec.ofNat 32 _; simp)⟩
theorem wb_c : ∀ k, k < 64 → ((nI k).toInt64 &&& 63) = lN k := by decide +kernel
theorem wb_cu : ∀ k, k < 64 → ((nI k).toInt64.toUInt64 &&& Int64.toUInt64 63) = UInt64.ofNat k := by decide +kernel
theorem wb_sm : ∀ k, k < 64 → (BitVec.ofNat 64 k).smod 64 = BitVec.ofNat 64 k := by decide +kernel
theorem wb_pw {a b : Nat} (h : a ≤ b) : 2 ^ b = 2 ^ a * 2 ^ (b - a) := by rw [← Nat.pow_add]; congr 1; omega
theorem wb_lt2 {a b : Nat} (h : a < b) : 2 ^ a < 2 ^ b := Nat.pow_lt_pow_right (by decide) h
theorem wb_mod (n : Nat) : lN n = lN (n % 2 ^ 64) := wb_inj (by rw [wb_tb, wb_tb]; apply BitVec.eq_of_toNat_eq; rw [BitVec.toNat_ofNat, BitVec.toNat_ofNat, Nat.mod_mod])
theorem wb_shr {n k : Nat} (hn : n < 2 ^ 64) (hk : k < 64) : ((lN n).toUInt64 >>> ((nI k).toInt64.toUInt64 &&& Int64.toUInt64 63)).toInt64 = lN (n / 2 ^ k) := by
  rw [wb_cu k hk]
  apply wb_inj
  apply BitVec.eq_of_toNat_eq
  show ((lN n).toUInt64 >>> UInt64.ofNat k).toNat = (BitVec.ofNat 64 _).toNat
  have h1 : (UInt64.ofNat k).toNat = k := by
    show (BitVec.ofNat 64 k).toNat = k
    rw [BitVec.toNat_ofNat, Nat.mod_eq_of_lt (by omega)]
  have h2 : (lN n).toUInt64.toNat = n := wb_tn hn
  rw [UInt64.toNat_shiftRight, h1, h2, Nat.mod_eq_of_lt hk, Nat.shiftRight_eq_div_pow, BitVec.toNat_ofNat, Nat.mod_eq_of_lt (Nat.lt_of_le_of_lt (Nat.div_le_self _ _) hn)]
theorem wb_shl (n : Nat) {k : Nat} (hk : k < 64) : lN n <<< ((nI k).toInt64 &&& 63) = lN (n * 2 ^ k) := by
  rw [wb_c k hk]
  apply wb_inj
  rw [Int64.toBitVec_shiftLeft, wb_tb, wb_tb, wb_tb, wb_sm k hk]
  apply BitVec.eq_of_toNat_eq
  rw [BitVec.shiftLeft_eq', BitVec.toNat_shiftLeft, BitVec.toNat_ofNat, BitVec.toNat_ofNat, BitVec.toNat_ofNat, Nat.mod_eq_of_lt (show k < 2 ^ 64 by omega), Nat.shiftLeft_eq, Nat.mul_mod, Nat.mod_mod, ← Nat.mul_mod]
theorem wb_and {a b : Nat} (ha : a < 2 ^ 64) (hb : b < 2 ^ 64) : lN a &&& lN b = lN (a &&& b) := by
  apply wb_inj
  rw [Int64.toBitVec_and, wb_tb, wb_tb, wb_tb]
  apply BitVec.eq_of_toNat_eq
  rw [BitVec.toNat_and, BitVec.toNat_ofNat, BitVec.toNat_ofNat, BitVec.toNat_ofNat, Nat.mod_eq_of_lt ha, Nat.mod_eq_of_lt hb, Nat.mod_eq_of_lt (Nat.and_lt_two_pow _ hb)]
theorem wb_or {a b : Nat} (ha : a < 2 ^ 64) (hb : b < 2 ^ 64) : lN a ||| lN b = lN (a ||| b) := by
  apply wb_inj
  rw [Int64.toBitVec_or, wb_tb, wb_tb, wb_tb]
  apply BitVec.eq_of_toNat_eq
  rw [BitVec.toNat_or, BitVec.toNat_ofNat, BitVec.toNat_ofNat, BitVec.toNat_ofNat, Nat.mod_eq_of_lt ha, Nat.mod_eq_of_lt hb, Nat.mod_eq_of_lt (Nat.or_lt_two_pow ha hb)]
theorem wb_mask {n k : Nat} (hn : n < 2 ^ 64) (hk : k < 64) : lN n &&& lN (2 ^ k - 1) = lN (n % 2 ^ k) := by
  rw [wb_and hn (by have := wb_lt2 hk; omega), Nat.and_two_pow_sub_one_eq_mod]
theorem nx_xor (a b : Nat) : nI a ^^^ nI b = nI (a ^^^ b) := by
  apply Int32.toBitVec_inj.1
  show BitVec.ofNat 32 a ^^^ BitVec.ofNat 32 b = BitVec.ofNat 32 (a ^^^ b)
  apply BitVec.eq_of_getLsbD_eq
  intro i hi
  simp [hi]
theorem lN_xor (a b : Nat) : lN a ^^^ lN b = lN (a ^^^ b) := by
  apply Int64.toBitVec_inj.mp; rw [Int64.toBitVec_xor, wb_tb, wb_tb, wb_tb]; apply BitVec.eq_of_getLsbD_eq; intro i hi; simp [BitVec.getLsbD_ofNat, Nat.testBit_xor, hi]
/-! THE PLAIN LAWS: no program in sight -/
/-- two ints as one long: h * 2^32 + low is h << 32 | low -/
theorem pl_wide (h l : Int32) : (Int32.toInt64 h) * 4294967296 + ((Int32.toInt64 l) &&& 4294967295) = mz_w h l := by
  rw [mz_w]
  obtain ⟨a, ha, ea⟩ := wb_of (Int32.toInt64 h)
  obtain ⟨b, hb, eb⟩ := wb_of (Int32.toInt64 l)
  have hm : (4294967295 : Int64) = lN (2 ^ 32 - 1) := by decide +kernel
  have hp : (4294967296 : Int64) = lN (2 ^ 32) := by decide +kernel
  have hs : lN a <<< ((Int32.toInt64 (32 : Int32)) &&& 63) = lN (a * 2 ^ 32) := wb_shl a (k := 32) (by decide)
  have e1 : lN (a * 2 ^ 32) = lN (2 ^ 32 * (a % 2 ^ 32)) := by
    rw [wb_mod (a * 2 ^ 32), wb_mod (2 ^ 32 * (a % 2 ^ 32))]
    congr 1
    omega
  have hB : b % 2 ^ 32 < 2 ^ 32 := Nat.mod_lt _ (by decide)
  rw [ea, eb, hs, hm, hp, wb_mask hb (by decide), lN_mul, e1, lN_add, wb_or (by omega) (by omega)]
  rw [Nat.two_pow_add_eq_or_of_lt hB]
/-- the low half of an int as a long -/
theorem pl_lo (x : Int32) : Int32.toInt64 x &&& 4294967295 = lN x.toBitVec.toNat := by
  have hm : ∀ i, i < 64 → (4294967295 : Int64).toBitVec.getLsbD i = decide (i < 32) := by decide +kernel
  apply wb_inj
  rw [Int64.toBitVec_and, Int32.toBitVec_toInt64, wb_tb]
  apply BitVec.eq_of_getLsbD_eq
  intro i hi
  rw [BitVec.getLsbD_and, hm i hi, BitVec.getLsbD_signExtend, BitVec.getLsbD_ofNat, BitVec.testBit_toNat]
  by_cases h : i < 32
  · simp [h, hi]
  · have h3 := BitVec.getLsbD_of_ge x.toBitVec i (by omega)
    simp [h, hi, h3]
theorem us_s {n : Nat} {its made : Int64} {sh bits dn : Int32} (h : ¬ bits ≤ dn) : us_go (n + 1) its sh bits made dn = us_go n its sh bits (its ^^^ mz_l made sh) (dn + sh) := by
  rw [us_go, if_neg h]
theorem us_e {n : Nat} {its made : Int64} {sh bits dn : Int32} (h : bits ≤ dn) : us_go n its sh bits made dn = some made := by
  cases n with
  | zero => rw [us_go, if_pos h]
  | succ n => rw [us_go, if_pos h]
theorem pl_us16_32 (w : Int64) : us_go 4 w 16 32 w 16 = some (w ^^^ mz_l w 16) := (us_s (n := 3) (by decide)).trans (us_e (by decide))
theorem pl_us16_64 (w : Int64) : us_go 4 w 16 64 w 16 = some (w ^^^ mz_l (w ^^^ mz_l (w ^^^ mz_l w 16) 16) 16) := (us_s (n := 3) (by decide)).trans ((us_s (n := 2) (by decide)).trans ((us_s (n := 1) (by decide)).trans (us_e (by decide))))
theorem pl_us32_64 (w : Int64) : us_go 4 w 32 64 w 32 = some (w ^^^ mz_l w 32) := (us_s (n := 3) (by decide)).trans (us_e (by decide))
theorem pl_inv : iv_go 6 (-1640531527) (-1640531527) 0 = some (-3706345047104635767) := by decide +kernel
theorem pl_invL : iv_go 6 (-7046029254386353131) (-7046029254386353131) 0 = some (-1018231460777725123) := by decide +kernel
/-- back: the model's way is the class's -/
theorem pl_back (x : Int32) : Int64.toInt32 ((Int32.toInt64 x &&& 4294967295) ^^^ mz_l (Int32.toInt64 x &&& 4294967295) 16) * Int64.toInt32 (-3706345047104635767) = hc_inv x := by
  have hV : Int64.toInt32 (-3706345047104635767) = 340573321 := by decide +kernel
  have hn : x.toBitVec.toNat < 2 ^ 32 := x.toBitVec.isLt
  have en : x = nI x.toBitVec.toNat := Int32.toBitVec_inj.mp (by show _ = BitVec.ofNat 32 _; simp)
  rw [hV, pl_lo, hc_inv, mz_x]
  generalize x.toBitVec.toNat = n at hn en ⊢
  subst en
  have h1 : mz_l (lN n) 16 = lN (n / 2 ^ 16) := wb_shr (k := 16) (by omega) (by decide)
  have h2 : mz_u (nI n) 16 = nI (n / 2 ^ 16) := pk_ushrN hn 16 16 (by decide)
  rw [h1, h2, lN_xor, lN_i, nx_xor]
theorem pl_l (z : Int64) (k : Int32) (n : Nat) (hs : ((k.toInt64.toUInt64 &&& Int64.toUInt64 63).toBitVec % 64).toNat = n) : (mz_l z k).toBitVec = z.toBitVec >>> n := by
  rw [← hs]
  exact UInt64.toBitVec_shiftRight _ _
theorem pl_l16 (z : Int64) : (mz_l z 16).toBitVec = z.toBitVec >>> (16 : Nat) := pl_l z 16 16 (by decide)
theorem pl_l32 (z : Int64) : (mz_l z 32).toBitVec = z.toBitVec >>> (32 : Nat) := pl_l z 32 32 (by decide)
/-- unshifted by 16, then by 32, over 64 bits, is what the class does -/
theorem pl_sh (w : Int64) : (w ^^^ mz_l (w ^^^ mz_l (w ^^^ mz_l w 16) 16) 16) ^^^ mz_l (w ^^^ mz_l (w ^^^ mz_l (w ^^^ mz_l w 16) 16) 16) 32 = mz_y (mz_y (mz_y w 32) 16) 32 := by
  apply wb_inj
  simp only [mz_y, Int64.toBitVec_xor, pl_l16, pl_l32]
  generalize w.toBitVec = A
  apply BitVec.eq_of_getLsbD_eq
  intro i hi
  simp only [BitVec.getLsbD_xor, BitVec.getLsbD_ushiftRight]
  have a1 : 16 + (16 + i) = 32 + i := by omega
  have a2 : 16 + (32 + i) = 48 + i := by omega
  have a3 : 16 + (48 + i) = 64 + i := by omega
  have a4 : 16 + (64 + i) = 80 + i := by omega
  have a5 : 32 + (16 + i) = 48 + i := by omega
  have a6 : 32 + (32 + i) = 64 + i := by omega
  have a7 : 32 + (48 + i) = 80 + i := by omega
  have o1 : A.getLsbD (64 + i) = false := BitVec.getLsbD_of_ge A _ (by omega)
  have o2 : A.getLsbD (80 + i) = false := BitVec.getLsbD_of_ge A _ (by omega)
  simp only [a1, a2, a3, a4, a5, a6, a7, o1, o2]
  cases A.getLsbD i <;> cases A.getLsbD (16 + i) <;> cases A.getLsbD (32 + i) <;> cases A.getLsbD (48 + i) <;> rfl
theorem pl_lback (h l : Int32) : ((mz_w h l ^^^ mz_l (mz_w h l ^^^ mz_l (mz_w h l ^^^ mz_l (mz_w h l) 16) 16) 16) ^^^ mz_l (mz_w h l ^^^ mz_l (mz_w h l ^^^ mz_l (mz_w h l ^^^ mz_l (mz_w h l) 16) 16) 16) 32) * (-1018231460777725123) = f_lback h l := by
  rw [pl_sh]
  rfl
/-! leading zeros -/
theorem lg_div {m j : Nat} (h : 2 ^ j ≤ m) : m.log2 = (m / 2 ^ j).log2 + j := by
  have hp : 0 < 2 ^ j := Nat.two_pow_pos j
  have h0 : m ≠ 0 := by omega
  have hq : m / 2 ^ j ≠ 0 := Nat.pos_iff_ne_zero.mp (Nat.div_pos h hp)
  have e1 : 2 ^ (m / 2 ^ j).log2 ≤ m / 2 ^ j := Nat.log2_self_le hq
  have e2 : m / 2 ^ j < 2 ^ ((m / 2 ^ j).log2 + 1) := Nat.lt_log2_self
  refine (Nat.log2_eq_iff h0).mpr ⟨?_, ?_⟩
  · rw [Nat.pow_add]
    exact (Nat.le_div_iff_mul_le hp).mp e1
  · rw [show (m / 2 ^ j).log2 + j + 1 = ((m / 2 ^ j).log2 + 1) + j by omega, Nat.pow_add]
    exact (Nat.div_lt_iff_lt_mul hp).mp e2
theorem nz_step {f g : Int32 → Int32 → Int32} (j : Nat) (cj mj sj : Int32) (hcj : cj = nI (2 ^ j)) (hmj : mj = -(nI j)) (hsj : ((sj.toUInt32 &&& Int32.toUInt32 31).toBitVec % 32).toNat = j) (h2 : 2 ^ j < 2 ^ 31) (hf : ∀ n x : Int32, f n x = if x < cj then g n x else g (n + mj) (mz_u x sj)) (hg : ∀ k m : Nat, 1 ≤ m → m < 2 ^ j → m.log2 ≤ k → k < 2 ^ 31 → g (nI k) (nI m) = nI (k - m.log2)) : ∀ k m : Nat, 1 ≤ m → m < 2 ^ j * 2 ^ j → m < 2 ^ 31 → m.log2 ≤ k → k < 2 ^ 31 → f (nI k) (nI m) = nI (k - m.log2) := by
  intro k m h1 hm hm2 hk hk2
  rw [hf, hcj]
  by_cases h : m < 2 ^ j
  · rw [if_pos ((nI_ltI hm2 h2).mpr h)]
    exact hg k m h1 h hk hk2
  · have hge : 2 ^ j ≤ m := by omega
    have hl := lg_div hge
    have hp : 0 < 2 ^ j := Nat.two_pow_pos j
    have hu : mz_u (nI m) sj = nI (m / 2 ^ j) := pk_ushrN (by omega) sj j hsj
    have hs : nI k + mj = nI (k - j) := by
      rw [hmj, ← Int32.sub_eq_add_neg]
      exact pk_sub (by omega)
    rw [if_neg (fun q => h ((nI_ltI hm2 h2).mp q)), hu, hs]
    rw [hg (k - j) (m / 2 ^ j) (Nat.div_pos hge hp) ((Nat.div_lt_iff_lt_mul hp).mpr hm) (by omega) (by omega)]
    congr 1
    omega
theorem nz_s4 (k m : Nat) (h1 : 1 ≤ m) (hm : m < 2 ^ 2) (hk : m.log2 ≤ k) (hk2 : k < 2 ^ 31) : nz_4 (nI k) (nI m) = nI (k - m.log2) := by
  have hu : mz_u (nI m) 1 = nI (m / 2 ^ 1) := pk_ushrN (by omega) 1 1 (by decide)
  have hl : m.log2 = m / 2 ^ 1 := by
    rcases (show m = 1 ∨ m = 2 ∨ m = 3 by omega) with e | e | e <;> rw [e] <;> decide
  rw [nz_4, hu, hl]
  exact pk_sub (by omega)
theorem nz_s3 : ∀ k m : Nat, 1 ≤ m → m < 2 ^ 4 → m.log2 ≤ k → k < 2 ^ 31 → nz_3 (nI k) (nI m) = nI (k - m.log2) := fun k m h1 h2 h3 h4 => nz_step (f := nz_3) (g := nz_4) 2 4 (-2) 2 (by decide) (by decide) (by decide) (by decide) (fun _ _ => rfl) nz_s4 k m h1 (by omega) (by omega) h3 h4
theorem nz_s2 : ∀ k m : Nat, 1 ≤ m → m < 2 ^ 8 → m.log2 ≤ k → k < 2 ^ 31 → nz_2 (nI k) (nI m) = nI (k - m.log2) := fun k m h1 h2 h3 h4 => nz_step (f := nz_2) (g := nz_3) 4 16 (-4) 4 (by decide) (by decide) (by decide) (by decide) (fun _ _ => rfl) nz_s3 k m h1 (by omega) (by omega) h3 h4
theorem nz_s1 : ∀ k m : Nat, 1 ≤ m → m < 2 ^ 16 → m.log2 ≤ k → k < 2 ^ 31 → nz_1 (nI k) (nI m) = nI (k - m.log2) := fun k m h1 h2 h3 h4 => nz_step (f := nz_1) (g := nz_2) 8 256 (-8) 8 (by decide) (by decide) (by decide) (by decide) (fun _ _ => rfl) nz_s2 k m h1 (by omega) (by omega) h3 h4
theorem nz_s0 : ∀ k m : Nat, 1 ≤ m → m < 2 ^ 31 → m.log2 ≤ k → k < 2 ^ 31 → nz_0 (nI k) (nI m) = nI (k - m.log2) := fun k m h1 h2 h3 h4 => nz_step (f := nz_0) (g := nz_1) 16 65536 (-16) 16 (by decide) (by decide) (by decide) (by decide) (fun _ _ => rfl) nz_s1 k m h1 (by omega) (by omega) h3 h4
theorem nz_pos {m : Nat} (h1 : 1 ≤ m) (h2 : m < 2 ^ 31) : nz_i (nI m) = nI (31 - m.log2) := by
  have hl : m.log2 < 31 := (Nat.log2_lt (by omega)).mpr h2
  rw [nz_i, if_pos (show (0 : Int32) < nI m from nI_lt (a := 0) (by omega) h2)]
  exact nz_s0 31 m h1 h2 (by omega) (by omega)
theorem nz_neg {m : Nat} (h1 : 2 ^ 31 ≤ m) (h2 : m < 2 ^ 32) : nz_i (nI m) = 0 := by
  have e : (nI m).toInt = if 2 * (nI m).toBitVec.toNat < 2 ^ 32 then ((nI m).toBitVec.toNat : Int) else ((nI m).toBitVec.toNat : Int) - (2 ^ 32 : Nat) := BitVec.toInt_eq_toNat_cond _
  rw [pk_tn h2, if_neg (by omega)] at e
  have z : (0 : Int32).toInt = 0 := by decide
  have n1 : ¬ (0 : Int32) < nI m := by
    intro h
    rw [Int32.lt_iff_toInt_lt, e, z] at h
    omega
  have n2 : ¬ nI m = 0 := by
    intro h
    rw [h, z] at e
    omega
  rw [nz_i, if_neg n1, if_neg n2]
theorem nzl_pos {m : Nat} (h1 : 1 ≤ m) (h2 : m < 2 ^ 62) : nz_l (lN m) = nI (63 - m.log2) := by
  have hu : mz_l (lN m) 32 = lN (m / 2 ^ 32) := wb_shr (k := 32) (by omega) (by decide)
  rw [nz_l, hu, lN_i, lN_i]
  by_cases h : m < 2 ^ 32
  · have hq : m / 2 ^ 32 = 0 := Nat.div_eq_of_lt h
    rw [hq, if_pos nI_0]
    by_cases h3 : m < 2 ^ 31
    · have hl : m.log2 < 31 := (Nat.log2_lt (by omega)).mpr h3
      rw [nz_pos h1 h3, show (32 : Int32) = nI 32 from rfl, nI_add]
      congr 1
      omega
    · have hl : m.log2 = 31 := (Nat.log2_eq_iff (by omega)).mpr ⟨by omega, by omega⟩
      rw [nz_neg (by omega) h, hl]
      decide
  · have hl := lg_div (m := m) (j := 32) (by omega)
    have hq1 : 1 ≤ m / 2 ^ 32 := by omega
    have hq2 : m / 2 ^ 32 < 2 ^ 31 := by omega
    have hl2 : (m / 2 ^ 32).log2 < 31 := (Nat.log2_lt (by omega)).mpr hq2
    rw [if_neg (nI_ne0 (by omega) hq2), nz_pos hq1 hq2]
    congr 1
    omega
/-! next powers of two -/
theorem sh_i : ∀ l, l < 31 → (1 : Int32) <<< (nI l &&& 31) = nI (2 ^ l) := by decide +kernel
theorem sh_l : ∀ l, l < 63 → (1 : Int64) <<< ((nI l).toInt64 &&& 63) = lN (2 ^ l) := by decide +kernel
theorem pw_K {n : Nat} (hn : n < 2 ^ 30) : ∃ K, K ≤ 30 ∧ hc_pow (nI n) = nI (2 ^ K) ∧ n ≤ 2 ^ K ∧ ∀ j, j < K → 2 ^ j < n := by
  rcases (show n = 0 ∨ n = 1 ∨ 2 ≤ n by omega) with e | e | e
  · exact ⟨0, by omega, by rw [e]; decide +kernel, by omega, fun j hj => by omega⟩
  · exact ⟨0, by omega, by rw [e]; decide +kernel, by omega, fun j hj => by omega⟩
  · obtain ⟨m, rfl⟩ : ∃ m, n = m + 1 := ⟨n - 1, by omega⟩
    have hm0 : m ≠ 0 := by omega
    have hl : m.log2 < 30 := (Nat.log2_lt hm0).mpr (by omega)
    have h1 : 2 ^ m.log2 ≤ m := Nat.log2_self_le hm0
    have h2 : m < 2 ^ (m.log2 + 1) := Nat.lt_log2_self
    refine ⟨m.log2 + 1, by omega, ?_, h2, fun j hj => ?_⟩
    · rw [hc_pow, nI_pred, nz_pos (by omega) (by omega), show (32 : Int32) = nI 32 from rfl, pk_sub (by omega), show 32 - (31 - m.log2) = m.log2 + 1 by omega]
      exact sh_i _ (by omega)
    · have h3 : 2 ^ j ≤ 2 ^ m.log2 := Nat.pow_le_pow_right (by decide) (by omega)
      omega
theorem pw_ok {n K : Nat} (hK : K ≤ 30) (h1 : n ≤ 2 ^ K) (h2 : ∀ j, j < K → 2 ^ j < n) : ∀ f k : Nat, K ≤ k + f → k ≤ K → pw_go f (nI n) (nI (2 ^ k)) = some (nI (2 ^ K)) := by
  have hb : 2 ^ K < 2 ^ 31 := Nat.pow_lt_pow_right (by decide) (by omega)
  intro f
  induction f with
  | zero =>
    intro k a b
    rw [show k = K by omega, pw_go, if_pos ((nI_leI (by omega) hb).mpr h1)]
  | succ f ih =>
    intro k a b
    by_cases h : k = K
    · rw [h, pw_go, if_pos ((nI_leI (by omega) hb).mpr h1)]
    · have h3 := h2 k (by omega)
      rw [pw_go, if_neg (fun q => by have := (nI_leI (by omega) (by omega)).mp q; omega), nI_add, show 2 ^ k + 2 ^ k = 2 ^ (k + 1) by rw [Nat.pow_succ]; omega]
      exact ih (k + 1) (by omega) (by omega)
theorem pl_pow (x : Int32) : pw_go 31 (x &&& 1073741823) 1 = some (f_pow x) := by
  rw [f_pow, pk_and x 30 (by decide)]
  obtain ⟨K, h1, h2, h3, h4⟩ := pw_K (n := x.toBitVec.toNat % 2 ^ 30) (Nat.mod_lt _ (by decide))
  rw [h2, show (1 : Int32) = nI (2 ^ 0) from rfl]
  exact pw_ok h1 h3 h4 31 0 (by omega) (by omega)
theorem pl_K {n : Nat} (hn : n < 2 ^ 62) : ∃ K, K ≤ 62 ∧ hc_powL (lN n) = lN (2 ^ K) ∧ n ≤ 2 ^ K ∧ ∀ j, j < K → 2 ^ j < n := by
  rcases (show n = 0 ∨ n = 1 ∨ 2 ≤ n by omega) with e | e | e
  · exact ⟨0, by omega, by rw [e]; decide +kernel, by omega, fun j hj => by omega⟩
  · exact ⟨0, by omega, by rw [e]; decide +kernel, by omega, fun j hj => by omega⟩
  · obtain ⟨m, rfl⟩ : ∃ m, n = m + 1 := ⟨n - 1, by omega⟩
    have hm0 : m ≠ 0 := by omega
    have hl : m.log2 < 62 := (Nat.log2_lt hm0).mpr (by omega)
    have h1 : 2 ^ m.log2 ≤ m := Nat.log2_self_le hm0
    have h2 : m < 2 ^ (m.log2 + 1) := Nat.lt_log2_self
    have hs : lN (m + 1) - 1 = lN m := lN_sub (a := m + 1) (b := 1) (by omega)
    refine ⟨m.log2 + 1, by omega, ?_, h2, fun j hj => ?_⟩
    · rw [hc_powL, hs, nzl_pos (by omega) (by omega), show (64 : Int32) = nI 64 from rfl, pk_sub (by omega), show 64 - (63 - m.log2) = m.log2 + 1 by omega]
      exact sh_l _ (by omega)
    · have h3 : 2 ^ j ≤ 2 ^ m.log2 := Nat.pow_le_pow_right (by decide) (by omega)
      omega
theorem pl_ok {n K : Nat} (hK : K ≤ 62) (h1 : n ≤ 2 ^ K) (h2 : ∀ j, j < K → 2 ^ j < n) : ∀ f k : Nat, K ≤ k + f → k ≤ K → pl_go f (lN n) (lN (2 ^ k)) = some (lN (2 ^ K)) := by
  have hb : 2 ^ K < 2 ^ 63 := Nat.pow_lt_pow_right (by decide) (by omega)
  intro f
  induction f with
  | zero =>
    intro k a b
    rw [show k = K by omega, pl_go, if_pos ((pk_lLE (by omega) hb).mpr h1)]
  | succ f ih =>
    intro k a b
    by_cases h : k = K
    · rw [h, pl_go, if_pos ((pk_lLE (by omega) hb).mpr h1)]
    · have h3 := h2 k (by omega)
      rw [pl_go, if_neg (fun q => by have := (pk_lLE (by omega) (by omega)).mp q; omega), lN_add, show 2 ^ k + 2 ^ k = 2 ^ (k + 1) by rw [Nat.pow_succ]; omega]
      exact ih (k + 1) (by omega) (by omega)
theorem pl_lpow (h l : Int32) : pl_go 63 (mz_w h l &&& 4611686018427387903) 1 = some (f_lpow h l) := by
  obtain ⟨a, ha, ea⟩ := wb_of (mz_w h l)
  have hm : (4611686018427387903 : Int64) = lN (2 ^ 62 - 1) := by decide +kernel
  rw [f_lpow, ea, hm, wb_mask ha (by decide)]
  obtain ⟨K, h1, h2, h3, h4⟩ := pl_K (n := a % 2 ^ 62) (Nat.mod_lt _ (by decide))
  rw [h2, show (1 : Int64) = lN (2 ^ 0) from rfl]
  exact pl_ok h1 h3 h4 63 0 (by omega) (by omega)
end
section
set_option maxHeartbeats 4000000 in
set_option maxRecDepth 100000 in
/-- RX0() -/
theorem mt_desk (l : Launch) (h0 : Nat) : Met l yX0_init (ws_ yX0_init cX0_init 1 none) ({ frames := 1, cells := 0, slots := 0, locals := 12 }) (fun v _ => v = ([.ref h0] : List Value).toArray) (va_Sv (fun _ => True)) 0 0 (fun _ => False) := by
  refine Met.ofW (cc := cX0_init) (maxL := 1) (ret := none) (by decide) rfl ?_
  intro p e s m args below meth c s₁ B hml hv
  have hv : args = ([.ref h0] : List Value).toArray := hv
  subst hv
  have hx := B.exec
  have hb := B.bytes
  have hr := B.returns
  have hts := atoms_spec (ws := ws_ yX0_init cX0_init 1 none) B.pre
  have hts : ∀ w ∈ lw_all, w.before _ s = true := fun w h => hts w (List.mem_cons_of_mem _ h)
  have hown : s.vm.findClass RX0 = some m.cls := findClass_of_methodNamed B.named
  have hlocks := B.notSynchronized
  have hl := lv_entry ([.ref h0]) (n := 1) (Nat.le_of_ble_eq_true rfl)
  rw [lg_entry_eq]
  generalize (lg_sl ([.ref h0]) ++ List.replicate (1 - (lg_sl ([.ref h0])).length) Slot.unset).toArray = ls at hl ⊢
  have hl : lv_has ls 1 [(0, .ref h0)] := hl
  refine lv_aload_n hx hb dX0_init_0 rfl (lv_at hl 0 rfl) ?_
  refine W.objInit hx hb hown (hts _ q12) (hts _ q13) (hts _ q14) rfl (by rw [hml]; exact hl.1) rfl dX0_init_1 (Nat.le_of_ble_eq_true rfl) (Nat.le_of_ble_eq_true rfl) ?_
  refine W.eq (g2 := F0 m 4 ls []) rfl ?_
  exact W.vret hx hb hr (fun t ht hW => ⟨rfl, trivial, ht⟩) (fun q h => by cases h) dX0_init_4
set_option maxHeartbeats 4000000 in
set_option maxRecDepth 100000 in
/-- MixDesk.wide -/
theorem mt_dwide (l : Launch) (p0 : Int32) (p1 : Int32) : Met l yX0_wide (ws_ yX0_wide cX0_wide 2 (some .long)) ({ frames := 0, cells := 0, slots := 0, locals := 0 }) (fun v _ => v = ([.int p0, .int p1] : List Value).toArray) (vp_Sl (fun r => r = mz_w p0 p1)) 0 0 (fun _ => False) := by
  refine Met.ofW (cc := cX0_wide) (maxL := 2) (ret := (some .long)) (by decide) rfl ?_
  intro p e s m args below meth c s₁ B hml hv
  have hv : args = ([.int p0, .int p1] : List Value).toArray := hv
  subst hv
  have hx := B.exec
  have hb := B.bytes
  have hr := B.returns
  have hts := atoms_spec (ws := ws_ yX0_wide cX0_wide 2 (some .long)) B.pre
  have hts : ∀ w ∈ lw_all, w.before _ s = true := fun w h => hts w (List.mem_cons_of_mem _ h)
  have hown : s.vm.findClass RX0 = some m.cls := findClass_of_methodNamed B.named
  have hlocks := B.notSynchronized
  have hl := lv_entry ([.int p0, .int p1]) (n := 2) (Nat.le_of_ble_eq_true rfl)
  rw [lg_entry_eq]
  generalize (lg_sl ([.int p0, .int p1]) ++ List.replicate (2 - (lg_sl ([.int p0, .int p1])).length) Slot.unset).toArray = ls at hl ⊢
  have hl : lv_has ls 2 [(0, .int p0), (1, .int p1)] := hl
  refine lv_iload_n hx hb dX0_wide_0 rfl (lv_at hl 0 rfl) ?_
  refine lv_i2l (v := (Int32.toInt64 p0)) hx hb dX0_wide_1 rfl ?_
  refine lv_bipush (v := 32) hx hb dX0_wide_2 (by decide) ?_
  refine lv_lshl (v := (Int32.toInt64 p0) <<< ((Int32.toInt64 (32 : Int32)) &&& 63)) hx hb dX0_wide_4 rfl ?_
  refine lv_iload_n hx hb dX0_wide_5 rfl (lv_at hl 1 rfl) ?_
  refine lv_i2l (v := (Int32.toInt64 p1)) hx hb dX0_wide_6 rfl ?_
  refine lv_ldc2 (v := 4294967295) hx hb hown (hts _ q39) dX0_wide_7 ?_
  refine lv_land hx hb dX0_wide_10 ?_
  refine lv_lor hx hb dX0_wide_11 ?_
  exact W.lret (v := ((Int32.toInt64 p0) <<< ((Int32.toInt64 (32 : Int32)) &&& 63)) ||| ((Int32.toInt64 p1) &&& 4294967295)) hx hb hr (fun t ht hW => ⟨_, rfl, by first | rfl | simp only [mz_w], ht⟩) (fun q h => by cases h) dX0_wide_12
set_option maxHeartbeats 4000000 in
set_option maxRecDepth 100000 in
/-- MixDesk.ix -/
theorem mt_dmix (l : Launch) (h0 : Nat) (p0 : Int32) : Met l yX0_mix (ws_ yX0_mix cX0_mix 2 (some .int)) ({ frames := 1, cells := 0, slots := 0, locals := 21 }) (fun v _ => v = ([.ref h0, .int p0] : List Value).toArray) (vp_Si (fun r => r = hc_mix p0)) 0 0 (fun _ => False) := by
  refine Met.ofW (cc := cX0_mix) (maxL := 2) (ret := (some .int)) (by decide) rfl ?_
  intro p e s m args below meth c s₁ B hml hv
  have hv : args = ([.ref h0, .int p0] : List Value).toArray := hv
  subst hv
  have hx := B.exec
  have hb := B.bytes
  have hr := B.returns
  have hts := atoms_spec (ws := ws_ yX0_mix cX0_mix 2 (some .int)) B.pre
  have hts : ∀ w ∈ lw_all, w.before _ s = true := fun w h => hts w (List.mem_cons_of_mem _ h)
  have hown : s.vm.findClass RX0 = some m.cls := findClass_of_methodNamed B.named
  have hlocks := B.notSynchronized
  have hl := lv_entry ([.ref h0, .int p0]) (n := 2) (Nat.le_of_ble_eq_true rfl)
  rw [lg_entry_eq]
  generalize (lg_sl ([.ref h0, .int p0]) ++ List.replicate (2 - (lg_sl ([.ref h0, .int p0])).length) Slot.unset).toArray = ls at hl ⊢
  have hl : lv_has ls 2 [(0, .ref h0), (1, .int p0)] := hl
  refine lv_iload_n hx hb dX0_mix_0 rfl (lv_at hl 1 rfl) ?_
  refine vp_callSi (W.runS (As := [.int p0]) (rest := []) ⟨hx, hb, hml, hown, hts⟩ (mt_hmix l p0) (va_cwS 1 hts (lw_S q20 q21 q3 q22) rfl rfl rfl (by decide +kernel) ⟨Nat.le_of_ble_eq_true rfl, Nat.le_of_ble_eq_true rfl⟩) preEq rfl rfl hl.1 rfl (lv_room (Nat.le_of_ble_eq_true rfl)) dX0_mix_1 ⟨Nat.le_of_ble_eq_true rfl, Nat.le_of_ble_eq_true rfl⟩) (fun v_1 ev_1 => ?_)
  exact W.iret (v := v_1) hx hb hr (fun t ht hW => ⟨_, rfl, by rw [ev_1] <;> first | rfl | simp only [hc_mix], ht⟩) (fun q h => by cases h) dX0_mix_4
set_option maxHeartbeats 4000000 in
set_option maxRecDepth 100000 in
/-- MixDesk.ack -/
theorem mt_dback (l : Launch) (h0 : Nat) (p0 : Int32) : Met l yX0_back (ws_ yX0_back cX0_back 2 (some .int)) ({ frames := 1, cells := 0, slots := 0, locals := 20 }) (fun v _ => v = ([.ref h0, .int p0] : List Value).toArray) (vp_Si (fun r => r = hc_inv p0)) 0 0 (fun _ => False) := by
  refine Met.ofW (cc := cX0_back) (maxL := 2) (ret := (some .int)) (by decide) rfl ?_
  intro p e s m args below meth c s₁ B hml hv
  have hv : args = ([.ref h0, .int p0] : List Value).toArray := hv
  subst hv
  have hx := B.exec
  have hb := B.bytes
  have hr := B.returns
  have hts := atoms_spec (ws := ws_ yX0_back cX0_back 2 (some .int)) B.pre
  have hts : ∀ w ∈ lw_all, w.before _ s = true := fun w h => hts w (List.mem_cons_of_mem _ h)
  have hown : s.vm.findClass RX0 = some m.cls := findClass_of_methodNamed B.named
  have hlocks := B.notSynchronized
  have hl := lv_entry ([.ref h0, .int p0]) (n := 2) (Nat.le_of_ble_eq_true rfl)
  rw [lg_entry_eq]
  generalize (lg_sl ([.ref h0, .int p0]) ++ List.replicate (2 - (lg_sl ([.ref h0, .int p0])).length) Slot.unset).toArray = ls at hl ⊢
  have hl : lv_has ls 2 [(0, .ref h0), (1, .int p0)] := hl
  refine lv_iload_n hx hb dX0_back_0 rfl (lv_at hl 1 rfl) ?_
  refine vp_callSi (W.runS (As := [.int p0]) (rest := []) ⟨hx, hb, hml, hown, hts⟩ (mt_hinv l p0) (va_cwS 1 hts (lw_S q28 q29 q3 q30) rfl rfl rfl (by decide +kernel) ⟨Nat.le_of_ble_eq_true rfl, Nat.le_of_ble_eq_true rfl⟩) preEq rfl rfl hl.1 rfl (lv_room (Nat.le_of_ble_eq_true rfl)) dX0_back_1 ⟨Nat.le_of_ble_eq_true rfl, Nat.le_of_ble_eq_true rfl⟩) (fun v_1 ev_1 => ?_)
  exact W.iret (v := v_1) hx hb hr (fun t ht hW => ⟨_, rfl, by rw [ev_1] <;> first | rfl | simp only [hc_inv], ht⟩) (fun q h => by cases h) dX0_back_4
set_option maxHeartbeats 4000000 in
set_option maxRecDepth 100000 in
/-- MixDesk.ongMix -/
theorem mt_dlmix (l : Launch) (h0 : Nat) (p0 : Int32) (p1 : Int32) : Met l yX0_longMix (ws_ yX0_longMix cX0_longMix 3 (some .long)) ({ frames := 1, cells := 0, slots := 0, locals := 23 }) (fun v _ => v = ([.ref h0, .int p0, .int p1] : List Value).toArray) (vp_Sl (fun r => r = f_lmix p0 p1)) 0 0 (fun _ => False) := by
  refine Met.ofW (cc := cX0_longMix) (maxL := 3) (ret := (some .long)) (by decide) rfl ?_
  intro p e s m args below meth c s₁ B hml hv
  have hv : args = ([.ref h0, .int p0, .int p1] : List Value).toArray := hv
  subst hv
  have hx := B.exec
  have hb := B.bytes
  have hr := B.returns
  have hts := atoms_spec (ws := ws_ yX0_longMix cX0_longMix 3 (some .long)) B.pre
  have hts : ∀ w ∈ lw_all, w.before _ s = true := fun w h => hts w (List.mem_cons_of_mem _ h)
  have hown : s.vm.findClass RX0 = some m.cls := findClass_of_methodNamed B.named
  have hlocks := B.notSynchronized
  have hl := lv_entry ([.ref h0, .int p0, .int p1]) (n := 3) (Nat.le_of_ble_eq_true rfl)
  rw [lg_entry_eq]
  generalize (lg_sl ([.ref h0, .int p0, .int p1]) ++ List.replicate (3 - (lg_sl ([.ref h0, .int p0, .int p1])).length) Slot.unset).toArray = ls at hl ⊢
  have hl : lv_has ls 3 [(0, .ref h0), (1, .int p0), (2, .int p1)] := hl
  refine lv_iload_n hx hb dX0_longMix_0 rfl (lv_at hl 1 rfl) ?_
  refine lv_iload_n hx hb dX0_longMix_1 rfl (lv_at hl 2 rfl) ?_
  refine vp_callSl (W.runS (As := [.int p0, .int p1]) (rest := []) ⟨hx, hb, hml, hown, hts⟩ (mt_dwide l p0 p1) (va_cwS 2 hts (lw_S q36 q37 q1 q38) rfl rfl rfl (by decide +kernel) ⟨Nat.le_of_ble_eq_true rfl, Nat.le_of_ble_eq_true rfl⟩) preEq rfl rfl hl.1 rfl (lv_room (Nat.le_of_ble_eq_true rfl)) dX0_longMix_2 ⟨Nat.le_of_ble_eq_true rfl, Nat.le_of_ble_eq_true rfl⟩) (fun v_1 ev_1 => ?_)
  refine vp_callSl (W.runS (As := [.long v_1]) (rest := []) ⟨hx, hb, hml, hown, hts⟩ (mt_hmixL l v_1) (va_cwS 1 hts (lw_S q40 q41 q3 q42) rfl rfl rfl (by decide +kernel) ⟨Nat.le_of_ble_eq_true rfl, Nat.le_of_ble_eq_true rfl⟩) preEq rfl rfl hl.1 rfl (lv_room (Nat.le_of_ble_eq_true rfl)) dX0_longMix_5 ⟨Nat.le_of_ble_eq_true rfl, Nat.le_of_ble_eq_true rfl⟩) (fun v_2 ev_2 => ?_)
  exact W.lret (v := v_2) hx hb hr (fun t ht hW => ⟨_, rfl, by rw [ev_2, ev_1] <;> first | rfl | simp only [f_lmix], ht⟩) (fun q h => by cases h) dX0_longMix_8
set_option maxHeartbeats 4000000 in
set_option maxRecDepth 100000 in
/-- MixDesk.ongBack -/
theorem mt_dlback (l : Launch) (h0 : Nat) (p0 : Int32) (p1 : Int32) : Met l yX0_longBack (ws_ yX0_longBack cX0_longBack 3 (some .long)) ({ frames := 1, cells := 0, slots := 0, locals := 21 }) (fun v _ => v = ([.ref h0, .int p0, .int p1] : List Value).toArray) (vp_Sl (fun r => r = f_lback p0 p1)) 0 0 (fun _ => False) := by
  refine Met.ofW (cc := cX0_longBack) (maxL := 3) (ret := (some .long)) (by decide) rfl ?_
  intro p e s m args below meth c s₁ B hml hv
  have hv : args = ([.ref h0, .int p0, .int p1] : List Value).toArray := hv
  subst hv
  have hx := B.exec
  have hb := B.bytes
  have hr := B.returns
  have hts := atoms_spec (ws := ws_ yX0_longBack cX0_longBack 3 (some .long)) B.pre
  have hts : ∀ w ∈ lw_all, w.before _ s = true := fun w h => hts w (List.mem_cons_of_mem _ h)
  have hown : s.vm.findClass RX0 = some m.cls := findClass_of_methodNamed B.named
  have hlocks := B.notSynchronized
  have hl := lv_entry ([.ref h0, .int p0, .int p1]) (n := 3) (Nat.le_of_ble_eq_true rfl)
  rw [lg_entry_eq]
  generalize (lg_sl ([.ref h0, .int p0, .int p1]) ++ List.replicate (3 - (lg_sl ([.ref h0, .int p0, .int p1])).length) Slot.unset).toArray = ls at hl ⊢
  have hl : lv_has ls 3 [(0, .ref h0), (1, .int p0), (2, .int p1)] := hl
  refine lv_iload_n hx hb dX0_longBack_0 rfl (lv_at hl 1 rfl) ?_
  refine lv_iload_n hx hb dX0_longBack_1 rfl (lv_at hl 2 rfl) ?_
  refine vp_callSl (W.runS (As := [.int p0, .int p1]) (rest := []) ⟨hx, hb, hml, hown, hts⟩ (mt_dwide l p0 p1) (va_cwS 2 hts (lw_S q36 q37 q1 q38) rfl rfl rfl (by decide +kernel) ⟨Nat.le_of_ble_eq_true rfl, Nat.le_of_ble_eq_true rfl⟩) preEq rfl rfl hl.1 rfl (lv_room (Nat.le_of_ble_eq_true rfl)) dX0_longBack_2 ⟨Nat.le_of_ble_eq_true rfl, Nat.le_of_ble_eq_true rfl⟩) (fun v_1 ev_1 => ?_)
  refine vp_callSl (W.runS (As := [.long v_1]) (rest := []) ⟨hx, hb, hml, hown, hts⟩ (mt_hinvL l v_1) (va_cwS 1 hts (lw_S q48 q49 q3 q50) rfl rfl rfl (by decide +kernel) ⟨Nat.le_of_ble_eq_true rfl, Nat.le_of_ble_eq_true rfl⟩) preEq rfl rfl hl.1 rfl (lv_room (Nat.le_of_ble_eq_true rfl)) dX0_longBack_5 ⟨Nat.le_of_ble_eq_true rfl, Nat.le_of_ble_eq_true rfl⟩) (fun v_2 ev_2 => ?_)
  exact W.lret (v := v_2) hx hb hr (fun t ht hW => ⟨_, rfl, by rw [ev_2, ev_1] <;> first | rfl | simp only [f_lback], ht⟩) (fun q h => by cases h) dX0_longBack_8
set_option maxHeartbeats 4000000 in
set_option maxRecDepth 100000 in
/-- MixDesk.urmur -/
theorem mt_dmur (l : Launch) (h0 : Nat) (p0 : Int32) : Met l yX0_murmur (ws_ yX0_murmur cX0_murmur 2 (some .int)) ({ frames := 1, cells := 0, slots := 0, locals := 20 }) (fun v _ => v = ([.ref h0, .int p0] : List Value).toArray) (vp_Si (fun r => r = hc_mur p0)) 0 0 (fun _ => False) := by
  refine Met.ofW (cc := cX0_murmur) (maxL := 2) (ret := (some .int)) (by decide) rfl ?_
  intro p e s m args below meth c s₁ B hml hv
  have hv : args = ([.ref h0, .int p0] : List Value).toArray := hv
  subst hv
  have hx := B.exec
  have hb := B.bytes
  have hr := B.returns
  have hts := atoms_spec (ws := ws_ yX0_murmur cX0_murmur 2 (some .int)) B.pre
  have hts : ∀ w ∈ lw_all, w.before _ s = true := fun w h => hts w (List.mem_cons_of_mem _ h)
  have hown : s.vm.findClass RX0 = some m.cls := findClass_of_methodNamed B.named
  have hlocks := B.notSynchronized
  have hl := lv_entry ([.ref h0, .int p0]) (n := 2) (Nat.le_of_ble_eq_true rfl)
  rw [lg_entry_eq]
  generalize (lg_sl ([.ref h0, .int p0]) ++ List.replicate (2 - (lg_sl ([.ref h0, .int p0])).length) Slot.unset).toArray = ls at hl ⊢
  have hl : lv_has ls 2 [(0, .ref h0), (1, .int p0)] := hl
  refine lv_iload_n hx hb dX0_murmur_0 rfl (lv_at hl 1 rfl) ?_
  refine vp_callSi (W.runS (As := [.int p0]) (rest := []) ⟨hx, hb, hml, hown, hts⟩ (mt_hmur l p0) (va_cwS 1 hts (lw_S q56 q57 q3 q58) rfl rfl rfl (by decide +kernel) ⟨Nat.le_of_ble_eq_true rfl, Nat.le_of_ble_eq_true rfl⟩) preEq rfl rfl hl.1 rfl (lv_room (Nat.le_of_ble_eq_true rfl)) dX0_murmur_1 ⟨Nat.le_of_ble_eq_true rfl, Nat.le_of_ble_eq_true rfl⟩) (fun v_1 ev_1 => ?_)
  exact W.iret (v := v_1) hx hb hr (fun t ht hW => ⟨_, rfl, by rw [ev_1] <;> first | rfl | simp only [hc_mur], ht⟩) (fun q h => by cases h) dX0_murmur_4
set_option maxHeartbeats 4000000 in
set_option maxRecDepth 100000 in
/-- MixDesk.ongMurmur -/
theorem mt_dlmur (l : Launch) (h0 : Nat) (p0 : Int32) (p1 : Int32) : Met l yX0_longMurmur (ws_ yX0_longMurmur cX0_longMurmur 3 (some .long)) ({ frames := 1, cells := 0, slots := 0, locals := 21 }) (fun v _ => v = ([.ref h0, .int p0, .int p1] : List Value).toArray) (vp_Sl (fun r => r = f_lmur p0 p1)) 0 0 (fun _ => False) := by
  refine Met.ofW (cc := cX0_longMurmur) (maxL := 3) (ret := (some .long)) (by decide) rfl ?_
  intro p e s m args below meth c s₁ B hml hv
  have hv : args = ([.ref h0, .int p0, .int p1] : List Value).toArray := hv
  subst hv
  have hx := B.exec
  have hb := B.bytes
  have hr := B.returns
  have hts := atoms_spec (ws := ws_ yX0_longMurmur cX0_longMurmur 3 (some .long)) B.pre
  have hts : ∀ w ∈ lw_all, w.before _ s = true := fun w h => hts w (List.mem_cons_of_mem _ h)
  have hown : s.vm.findClass RX0 = some m.cls := findClass_of_methodNamed B.named
  have hlocks := B.notSynchronized
  have hl := lv_entry ([.ref h0, .int p0, .int p1]) (n := 3) (Nat.le_of_ble_eq_true rfl)
  rw [lg_entry_eq]
  generalize (lg_sl ([.ref h0, .int p0, .int p1]) ++ List.replicate (3 - (lg_sl ([.ref h0, .int p0, .int p1])).length) Slot.unset).toArray = ls at hl ⊢
  have hl : lv_has ls 3 [(0, .ref h0), (1, .int p0), (2, .int p1)] := hl
  refine lv_iload_n hx hb dX0_longMurmur_0 rfl (lv_at hl 1 rfl) ?_
  refine lv_iload_n hx hb dX0_longMurmur_1 rfl (lv_at hl 2 rfl) ?_
  refine vp_callSl (W.runS (As := [.int p0, .int p1]) (rest := []) ⟨hx, hb, hml, hown, hts⟩ (mt_dwide l p0 p1) (va_cwS 2 hts (lw_S q36 q37 q1 q38) rfl rfl rfl (by decide +kernel) ⟨Nat.le_of_ble_eq_true rfl, Nat.le_of_ble_eq_true rfl⟩) preEq rfl rfl hl.1 rfl (lv_room (Nat.le_of_ble_eq_true rfl)) dX0_longMurmur_2 ⟨Nat.le_of_ble_eq_true rfl, Nat.le_of_ble_eq_true rfl⟩) (fun v_1 ev_1 => ?_)
  refine vp_callSl (W.runS (As := [.long v_1]) (rest := []) ⟨hx, hb, hml, hown, hts⟩ (mt_hmurL l v_1) (va_cwS 1 hts (lw_S q65 q66 q3 q67) rfl rfl rfl (by decide +kernel) ⟨Nat.le_of_ble_eq_true rfl, Nat.le_of_ble_eq_true rfl⟩) preEq rfl rfl hl.1 rfl (lv_room (Nat.le_of_ble_eq_true rfl)) dX0_longMurmur_5 ⟨Nat.le_of_ble_eq_true rfl, Nat.le_of_ble_eq_true rfl⟩) (fun v_2 ev_2 => ?_)
  exact W.lret (v := v_2) hx hb hr (fun t ht hW => ⟨_, rfl, by rw [ev_2, ev_1] <;> first | rfl | simp only [f_lmur], ht⟩) (fun q h => by cases h) dX0_longMurmur_8
set_option maxHeartbeats 4000000 in
set_option maxRecDepth 100000 in
/-- MixDesk.ower -/
theorem mt_dpow (l : Launch) (h0 : Nat) (p0 : Int32) : Met l yX0_power (ws_ yX0_power cX0_power 2 (some .int)) ({ frames := 2, cells := 0, slots := 0, locals := 41 }) (fun v _ => v = ([.ref h0, .int p0] : List Value).toArray) (vp_Si (fun r => r = f_pow p0)) 0 0 (fun _ => False) := by
  refine Met.ofW (cc := cX0_power) (maxL := 2) (ret := (some .int)) (by decide) rfl ?_
  intro p e s m args below meth c s₁ B hml hv
  have hv : args = ([.ref h0, .int p0] : List Value).toArray := hv
  subst hv
  have hx := B.exec
  have hb := B.bytes
  have hr := B.returns
  have hts := atoms_spec (ws := ws_ yX0_power cX0_power 2 (some .int)) B.pre
  have hts : ∀ w ∈ lw_all, w.before _ s = true := fun w h => hts w (List.mem_cons_of_mem _ h)
  have hown : s.vm.findClass RX0 = some m.cls := findClass_of_methodNamed B.named
  have hlocks := B.notSynchronized
  have hl := lv_entry ([.ref h0, .int p0]) (n := 2) (Nat.le_of_ble_eq_true rfl)
  rw [lg_entry_eq]
  generalize (lg_sl ([.ref h0, .int p0]) ++ List.replicate (2 - (lg_sl ([.ref h0, .int p0])).length) Slot.unset).toArray = ls at hl ⊢
  have hl : lv_has ls 2 [(0, .ref h0), (1, .int p0)] := hl
  refine lv_iload_n hx hb dX0_power_0 rfl (lv_at hl 1 rfl) ?_
  refine lv_ldc (v := 1073741823) hx hb hown (hts _ q74) dX0_power_1 ?_
  refine lv_iand hx hb dX0_power_3 ?_
  refine vp_callSi (W.runS (As := [.int (p0 &&& 1073741823)]) (rest := []) ⟨hx, hb, hml, hown, hts⟩ (mt_hpow l (p0 &&& 1073741823)) (va_cwS 1 hts (lw_S q75 q76 q3 q77) rfl rfl rfl (by decide +kernel) ⟨Nat.le_of_ble_eq_true rfl, Nat.le_of_ble_eq_true rfl⟩) preEq rfl rfl hl.1 rfl (lv_room (Nat.le_of_ble_eq_true rfl)) dX0_power_4 ⟨Nat.le_of_ble_eq_true rfl, Nat.le_of_ble_eq_true rfl⟩) (fun v_1 ev_1 => ?_)
  exact W.iret (v := v_1) hx hb hr (fun t ht hW => ⟨_, rfl, by rw [ev_1] <;> first | rfl | simp only [f_pow], ht⟩) (fun q h => by cases h) dX0_power_7
set_option maxHeartbeats 4000000 in
set_option maxRecDepth 100000 in
/-- MixDesk.ongPower -/
theorem mt_dlpow (l : Launch) (h0 : Nat) (p0 : Int32) (p1 : Int32) : Met l yX0_longPower (ws_ yX0_longPower cX0_longPower 3 (some .long)) ({ frames := 3, cells := 0, slots := 0, locals := 64 }) (fun v _ => v = ([.ref h0, .int p0, .int p1] : List Value).toArray) (vp_Sl (fun r => r = f_lpow p0 p1)) 0 0 (fun _ => False) := by
  refine Met.ofW (cc := cX0_longPower) (maxL := 3) (ret := (some .long)) (by decide) rfl ?_
  intro p e s m args below meth c s₁ B hml hv
  have hv : args = ([.ref h0, .int p0, .int p1] : List Value).toArray := hv
  subst hv
  have hx := B.exec
  have hb := B.bytes
  have hr := B.returns
  have hts := atoms_spec (ws := ws_ yX0_longPower cX0_longPower 3 (some .long)) B.pre
  have hts : ∀ w ∈ lw_all, w.before _ s = true := fun w h => hts w (List.mem_cons_of_mem _ h)
  have hown : s.vm.findClass RX0 = some m.cls := findClass_of_methodNamed B.named
  have hlocks := B.notSynchronized
  have hl := lv_entry ([.ref h0, .int p0, .int p1]) (n := 3) (Nat.le_of_ble_eq_true rfl)
  rw [lg_entry_eq]
  generalize (lg_sl ([.ref h0, .int p0, .int p1]) ++ List.replicate (3 - (lg_sl ([.ref h0, .int p0, .int p1])).length) Slot.unset).toArray = ls at hl ⊢
  have hl : lv_has ls 3 [(0, .ref h0), (1, .int p0), (2, .int p1)] := hl
  refine lv_iload_n hx hb dX0_longPower_0 rfl (lv_at hl 1 rfl) ?_
  refine lv_iload_n hx hb dX0_longPower_1 rfl (lv_at hl 2 rfl) ?_
  refine vp_callSl (W.runS (As := [.int p0, .int p1]) (rest := []) ⟨hx, hb, hml, hown, hts⟩ (mt_dwide l p0 p1) (va_cwS 2 hts (lw_S q36 q37 q1 q38) rfl rfl rfl (by decide +kernel) ⟨Nat.le_of_ble_eq_true rfl, Nat.le_of_ble_eq_true rfl⟩) preEq rfl rfl hl.1 rfl (lv_room (Nat.le_of_ble_eq_true rfl)) dX0_longPower_2 ⟨Nat.le_of_ble_eq_true rfl, Nat.le_of_ble_eq_true rfl⟩) (fun v_1 ev_1 => ?_)
  refine lv_ldc2 (v := 4611686018427387903) hx hb hown (hts _ q86) dX0_longPower_5 ?_
  refine lv_land hx hb dX0_longPower_8 ?_
  refine vp_callSl (W.runS (As := [.long (v_1 &&& 4611686018427387903)]) (rest := []) ⟨hx, hb, hml, hown, hts⟩ (mt_hpowL l (v_1 &&& 4611686018427387903)) (va_cwS 1 hts (lw_S q87 q88 q3 q89) rfl rfl rfl (by decide +kernel) ⟨Nat.le_of_ble_eq_true rfl, Nat.le_of_ble_eq_true rfl⟩) preEq rfl rfl hl.1 rfl (lv_room (Nat.le_of_ble_eq_true rfl)) dX0_longPower_9 ⟨Nat.le_of_ble_eq_true rfl, Nat.le_of_ble_eq_true rfl⟩) (fun v_2 ev_2 => ?_)
  exact W.lret (v := v_2) hx hb hr (fun t ht hW => ⟨_, rfl, by rw [ev_2, ev_1] <;> first | rfl | simp only [f_lpow], ht⟩) (fun q h => by cases h) dX0_longPower_12
end
section
set_option maxHeartbeats 4000000 in
set_option maxRecDepth 100000 in
/-- RX1() -/
theorem mt_model (l : Launch) (h0 : Nat) : Met l yX1_init (ws_ yX1_init cX1_init 1 none) ({ frames := 1, cells := 0, slots := 0, locals := 12 }) (fun v _ => v = ([.ref h0] : List Value).toArray) (va_Sv (fun _ => True)) 0 0 (fun _ => False) := by
  refine Met.ofW (cc := cX1_init) (maxL := 1) (ret := none) (by decide) rfl ?_
  intro p e s m args below meth c s₁ B hml hv
  have hv : args = ([.ref h0] : List Value).toArray := hv
  subst hv
  have hx := B.exec
  have hb := B.bytes
  have hr := B.returns
  have hts := atoms_spec (ws := ws_ yX1_init cX1_init 1 none) B.pre
  have hts : ∀ w ∈ lw_all, w.before _ s = true := fun w h => hts w (List.mem_cons_of_mem _ h)
  have hown : s.vm.findClass RX1 = some m.cls := findClass_of_methodNamed B.named
  have hlocks := B.notSynchronized
  have hl := lv_entry ([.ref h0]) (n := 1) (Nat.le_of_ble_eq_true rfl)
  rw [lg_entry_eq]
  generalize (lg_sl ([.ref h0]) ++ List.replicate (1 - (lg_sl ([.ref h0])).length) Slot.unset).toArray = ls at hl ⊢
  have hl : lv_has ls 1 [(0, .ref h0)] := hl
  refine lv_aload_n hx hb dX1_init_0 rfl (lv_at hl 0 rfl) ?_
  refine W.objInit hx hb hown (hts _ q99) (hts _ q13) (hts _ q14) rfl (by rw [hml]; exact hl.1) rfl dX1_init_1 (Nat.le_of_ble_eq_true rfl) (Nat.le_of_ble_eq_true rfl) ?_
  refine W.eq (g2 := F0 m 4 ls []) rfl ?_
  exact W.vret hx hb hr (fun t ht hW => ⟨rfl, trivial, ht⟩) (fun q h => by cases h) dX1_init_4
set_option maxHeartbeats 4000000 in
set_option maxRecDepth 100000 in
/-- MixDeskModel.wide -/
theorem mt_mwide (l : Launch) (p0 : Int32) (p1 : Int32) : Met l yX1_wide (ws_ yX1_wide cX1_wide 4 (some .long)) ({ frames := 0, cells := 0, slots := 0, locals := 0 }) (fun v _ => v = ([.int p0, .int p1] : List Value).toArray) (vp_Sl (fun r => r = mz_w p0 p1)) 0 0 (fun _ => False) := by
  refine Met.ofW (cc := cX1_wide) (maxL := 4) (ret := (some .long)) (by decide) rfl ?_
  intro p e s m args below meth c s₁ B hml hv
  have hv : args = ([.int p0, .int p1] : List Value).toArray := hv
  subst hv
  have hx := B.exec
  have hb := B.bytes
  have hr := B.returns
  have hts := atoms_spec (ws := ws_ yX1_wide cX1_wide 4 (some .long)) B.pre
  have hts : ∀ w ∈ lw_all, w.before _ s = true := fun w h => hts w (List.mem_cons_of_mem _ h)
  have hown : s.vm.findClass RX1 = some m.cls := findClass_of_methodNamed B.named
  have hlocks := B.notSynchronized
  have hl := lv_entry ([.int p0, .int p1]) (n := 4) (Nat.le_of_ble_eq_true rfl)
  rw [lg_entry_eq]
  generalize (lg_sl ([.int p0, .int p1]) ++ List.replicate (4 - (lg_sl ([.int p0, .int p1])).length) Slot.unset).toArray = ls at hl ⊢
  have hl : lv_has ls 4 [(0, .int p0), (1, .int p1)] := hl
  refine lv_iload_n hx hb dX1_wide_0 rfl (lv_at hl 0 rfl) ?_
  refine lv_i2l (v := (Int32.toInt64 p0)) hx hb dX1_wide_1 rfl ?_
  refine lv_topl (fun v_1 ev_1 => ?_)
  refine lv_lstore_n (lv' := [(2, .long v_1), (0, .int p0), (1, .int p1)]) hx hb dX1_wide_2 rfl hl (by decide) rfl (fun ls hl => ?_)
  refine lv_lload_n hx hb dX1_wide_3 rfl (lv_at hl 0 rfl) ?_
  refine lv_ldc2 (v := 4294967296) hx hb hown (hts _ q126) dX1_wide_4 ?_
  refine lv_lmul hx hb dX1_wide_7 ?_
  refine lv_iload_n hx hb dX1_wide_8 rfl (lv_at hl 2 rfl) ?_
  refine lv_i2l (v := (Int32.toInt64 p1)) hx hb dX1_wide_9 rfl ?_
  refine lv_ldc2 (v := 4294967295) hx hb hown (hts _ q110) dX1_wide_10 ?_
  refine lv_land hx hb dX1_wide_13 ?_
  refine lv_ladd hx hb dX1_wide_14 ?_
  exact W.lret (v := (v_1 * 4294967296) + ((Int32.toInt64 p1) &&& 4294967295)) hx hb hr (fun t ht hW => ⟨_, rfl, by rw [ev_1]; exact pl_wide p0 p1, ht⟩) (fun q h => by cases h) dX1_wide_15
section
variable {p : Program} {l : Launch} {e : Env} {R : Room} {s : State} {m : MethodId} {args : Array Value} {below : List Frame} {meth : Method} {c : Code} {H : Heap} {locs : List Loc} {cells slots : Nat} {Q : State → Prop}
set_option maxHeartbeats 4000000 in
set_option maxRecDepth 100000 in
theorem lp_inv (hx : p.tables.exec = Jvm.exec) (hb : c.code = cX1_inverse) (hown : s.vm.findClass RX1 = some m.cls) (hts : ∀ w ∈ lw_all, w.before args s = true) (r : Int64) (kk : ∀ ls' : Array Slot, W p l e R s m args below meth c H locs cells slots Q (F0 m 29 ls' [.long r])) : ∀ (n : Nat) (odd its : Int64) (k : Int32), iv_go n odd its k = some r → ∀ (ls : Array Slot), lv_has ls 5 [(0, .long odd), (2, .long its), (4, .int k)] → W p l e R s m args below meth c H locs cells slots Q (F0 m 5 ls []) := by
  intro n
  induction n with
  | zero =>
    intro odd its k hg ls hl
    refine lv_iload hx hb dX1_inverse_5 (lv_at hl 2 rfl) ?_
    refine lv_bipush (v := 6) hx hb dX1_inverse_7 (by decide) ?_
    refine lv_icmp_ge (tgt := 28) hx hb dX1_inverse_9 (by decide) (fun hc => ?_) (fun hc => ?_)
    · rw [iv_go, if_pos hc] at hg
      cases hg
      refine lv_lload_n hx hb dX1_inverse_28 rfl (lv_at hl 1 rfl) ?_
      exact kk ls
    · rw [iv_go, if_neg hc] at hg
      cases hg
  | succ n ih =>
    intro odd its k hg ls hl
    refine lv_iload hx hb dX1_inverse_5 (lv_at hl 2 rfl) ?_
    refine lv_bipush (v := 6) hx hb dX1_inverse_7 (by decide) ?_
    refine lv_icmp_ge (tgt := 28) hx hb dX1_inverse_9 (by decide) (fun hc => ?_) (fun hc => ?_)
    · rw [iv_go, if_pos hc] at hg
      cases hg
      refine lv_lload_n hx hb dX1_inverse_28 rfl (lv_at hl 1 rfl) ?_
      exact kk ls
    · rw [iv_go, if_neg hc] at hg
      refine lv_lload_n hx hb dX1_inverse_12 rfl (lv_at hl 1 rfl) ?_
      refine lv_ldc2 (v := 2) hx hb hown (hts _ q118) dX1_inverse_13 ?_
      refine lv_lload_n hx hb dX1_inverse_16 rfl (lv_at hl 0 rfl) ?_
      refine lv_lload_n hx hb dX1_inverse_17 rfl (lv_at hl 1 rfl) ?_
      refine lv_lmul hx hb dX1_inverse_18 ?_
      refine lv_lsub hx hb dX1_inverse_19 ?_
      refine lv_lmul hx hb dX1_inverse_20 ?_
      refine lv_topl (fun v_1 ev_1 => ?_)
      refine lv_lstore_n (lv' := [(2, .long v_1), (0, .long odd), (4, .int k)]) hx hb dX1_inverse_21 rfl hl (by decide) rfl (fun ls hl => ?_)
      obtain ⟨v_2, ev_2⟩ : ∃ y : Int32, y = k + 1 := ⟨_, rfl⟩
      refine lv_iinc (v := v_2) (lv' := [(4, .int v_2), (2, .long v_1), (0, .long odd)]) hx hb dX1_inverse_22 hl (k := 2) rfl (by rw [ev_2]; exact congrArg (fun z : Int32 => k + z) (show Int32.ofInt (1) = (1 : Int32) by decide)) (by decide) rfl (fun ls hl => ?_)
      refine lv_goto (tgt := 5) hx hb dX1_inverse_25 (by decide) ?_
      rw [← ev_1, ← ev_2] at hg
      exact ih _ _ _ hg ls (lv_sub hl [2, 1, 0] rfl)
set_option maxHeartbeats 4000000 in
set_option maxRecDepth 100000 in
theorem lp_uns (hx : p.tables.exec = Jvm.exec) (hb : c.code = cX1_unshifted) (hown : s.vm.findClass RX1 = some m.cls) (hts : ∀ w ∈ lw_all, w.before args s = true) (r : Int64) (kk : ∀ ls' : Array Slot, W p l e R s m args below meth c H locs cells slots Q (F0 m 31 ls' [.long r])) : ∀ (n : Nat) (its : Int64) (by_ bits : Int32) (made : Int64) (done_ : Int32), us_go n its by_ bits made done_ = some r → ∀ (ls : Array Slot), lv_has ls 7 [(0, .long its), (2, .int by_), (3, .int bits), (4, .long made), (6, .int done_)] → W p l e R s m args below meth c H locs cells slots Q (F0 m 6 ls []) := by
  intro n
  induction n with
  | zero =>
    intro its by_ bits made done_ hg ls hl
    refine lv_iload hx hb dX1_unshifted_6 (lv_at hl 4 rfl) ?_
    refine lv_iload_n hx hb dX1_unshifted_8 rfl (lv_at hl 2 rfl) ?_
    refine lv_icmp_ge (tgt := 29) hx hb dX1_unshifted_9 (by decide) (fun hc => ?_) (fun hc => ?_)
    · rw [us_go, if_pos hc] at hg
      cases hg
      refine lv_lload hx hb dX1_unshifted_29 (lv_at hl 3 rfl) ?_
      exact kk ls
    · rw [us_go, if_neg hc] at hg
      cases hg
  | succ n ih =>
    intro its by_ bits made done_ hg ls hl
    refine lv_iload hx hb dX1_unshifted_6 (lv_at hl 4 rfl) ?_
    refine lv_iload_n hx hb dX1_unshifted_8 rfl (lv_at hl 2 rfl) ?_
    refine lv_icmp_ge (tgt := 29) hx hb dX1_unshifted_9 (by decide) (fun hc => ?_) (fun hc => ?_)
    · rw [us_go, if_pos hc] at hg
      cases hg
      refine lv_lload hx hb dX1_unshifted_29 (lv_at hl 3 rfl) ?_
      exact kk ls
    · rw [us_go, if_neg hc] at hg
      refine lv_lload_n hx hb dX1_unshifted_12 rfl (lv_at hl 0 rfl) ?_
      refine lv_lload hx hb dX1_unshifted_13 (lv_at hl 3 rfl) ?_
      refine lv_iload_n hx hb dX1_unshifted_15 rfl (lv_at hl 1 rfl) ?_
      refine lv_lushr (v := mz_l made by_) hx hb dX1_unshifted_16 rfl ?_
      refine lv_lxor hx hb dX1_unshifted_17 ?_
      refine lv_topl (fun v_1 ev_1 => ?_)
      refine lv_lstore (lv' := [(4, .long v_1), (0, .long its), (2, .int by_), (3, .int bits), (6, .int done_)]) hx hb dX1_unshifted_18 hl (by decide) rfl (fun ls hl => ?_)
      refine lv_iload hx hb dX1_unshifted_20 (lv_at hl 4 rfl) ?_
      refine lv_iload_n hx hb dX1_unshifted_22 rfl (lv_at hl 2 rfl) ?_
      refine lv_iadd hx hb dX1_unshifted_23 ?_
      refine lv_topi (fun v_2 ev_2 => ?_)
      refine lv_istore (lv' := [(6, .int v_2), (4, .long v_1), (0, .long its), (2, .int by_), (3, .int bits)]) hx hb dX1_unshifted_24 hl (by decide) rfl (fun ls hl => ?_)
      refine lv_goto (tgt := 6) hx hb dX1_unshifted_26 (by decide) ?_
      rw [← ev_1, ← ev_2] at hg
      exact ih _ _ _ _ _ hg ls (lv_sub hl [2, 3, 4, 1, 0] rfl)
set_option maxHeartbeats 4000000 in
set_option maxRecDepth 100000 in
theorem lp_pow (hx : p.tables.exec = Jvm.exec) (hb : c.code = cX1_power) (hown : s.vm.findClass RX1 = some m.cls) (hts : ∀ w ∈ lw_all, w.before args s = true) (h0 : Nat) (x r : Int32) (kk : ∀ ls' : Array Slot, W p l e R s m args below meth c H locs cells slots Q (F0 m 18 ls' [.int r])) : ∀ (n : Nat) (its : Int32), pw_go n (x &&& 1073741823) its = some r → ∀ (ls : Array Slot), lv_has ls 3 [(0, .ref h0), (1, .int x), (2, .int its)] → W p l e R s m args below meth c H locs cells slots Q (F0 m 2 ls []) := by
  intro n
  induction n with
  | zero =>
    intro its hg ls hl
    refine lv_iload_n hx hb dX1_power_2 rfl (lv_at hl 2 rfl) ?_
    refine lv_iload_n hx hb dX1_power_3 rfl (lv_at hl 1 rfl) ?_
    refine lv_ldc (v := 1073741823) hx hb hown (hts _ q148) dX1_power_4 ?_
    refine lv_iand hx hb dX1_power_6 ?_
    refine lv_icmp_ge (tgt := 17) hx hb dX1_power_7 (by decide) (fun hc => ?_) (fun hc => ?_)
    · rw [pw_go, if_pos hc] at hg
      cases hg
      refine lv_iload_n hx hb dX1_power_17 rfl (lv_at hl 2 rfl) ?_
      exact kk ls
    · rw [pw_go, if_neg hc] at hg
      cases hg
  | succ n ih =>
    intro its hg ls hl
    refine lv_iload_n hx hb dX1_power_2 rfl (lv_at hl 2 rfl) ?_
    refine lv_iload_n hx hb dX1_power_3 rfl (lv_at hl 1 rfl) ?_
    refine lv_ldc (v := 1073741823) hx hb hown (hts _ q148) dX1_power_4 ?_
    refine lv_iand hx hb dX1_power_6 ?_
    refine lv_icmp_ge (tgt := 17) hx hb dX1_power_7 (by decide) (fun hc => ?_) (fun hc => ?_)
    · rw [pw_go, if_pos hc] at hg
      cases hg
      refine lv_iload_n hx hb dX1_power_17 rfl (lv_at hl 2 rfl) ?_
      exact kk ls
    · rw [pw_go, if_neg hc] at hg
      refine lv_iload_n hx hb dX1_power_10 rfl (lv_at hl 2 rfl) ?_
      refine lv_iload_n hx hb dX1_power_11 rfl (lv_at hl 2 rfl) ?_
      refine lv_iadd hx hb dX1_power_12 ?_
      refine lv_topi (fun v_1 ev_1 => ?_)
      refine lv_istore_n (lv' := [(2, .int v_1), (0, .ref h0), (1, .int x)]) hx hb dX1_power_13 rfl hl (by decide) rfl (fun ls hl => ?_)
      refine lv_goto (tgt := 2) hx hb dX1_power_14 (by decide) ?_
      rw [← ev_1] at hg
      exact ih _ hg ls (lv_sub hl [1, 2, 0] rfl)
set_option maxHeartbeats 4000000 in
set_option maxRecDepth 100000 in
theorem lp_lpow (hx : p.tables.exec = Jvm.exec) (hb : c.code = cX1_longPower) (hown : s.vm.findClass RX1 = some m.cls) (hts : ∀ w ∈ lw_all, w.before args s = true) (r most : Int64) (kk : ∀ ls' : Array Slot, W p l e R s m args below meth c H locs cells slots Q (F0 m 32 ls' [.long r])) : ∀ (n : Nat) (its : Int64), pl_go n most its = some r → ∀ (ls : Array Slot), lv_has ls 7 [(3, .long most), (5, .long its)] → W p l e R s m args below meth c H locs cells slots Q (F0 m 13 ls []) := by
  intro n
  induction n with
  | zero =>
    intro its hg ls hl
    refine lv_lload hx hb dX1_longPower_13 (lv_at hl 1 rfl) ?_
    refine lv_lload_n hx hb dX1_longPower_15 rfl (lv_at hl 0 rfl) ?_
    refine W.lcmp hx hb dX1_longPower_16 ?_
    refine lv_if_ge (tgt := 30) hx hb dX1_longPower_17 (by decide) (fun hc => ?_) (fun hc => ?_)
    · rw [pl_go, if_pos ((lg_cmp_ge _ _).mp hc)] at hg
      cases hg
      refine lv_lload hx hb dX1_longPower_30 (lv_at hl 1 rfl) ?_
      exact kk ls
    · rw [pl_go, if_neg (fun h => hc ((lg_cmp_ge _ _).mpr h))] at hg
      cases hg
  | succ n ih =>
    intro its hg ls hl
    refine lv_lload hx hb dX1_longPower_13 (lv_at hl 1 rfl) ?_
    refine lv_lload_n hx hb dX1_longPower_15 rfl (lv_at hl 0 rfl) ?_
    refine W.lcmp hx hb dX1_longPower_16 ?_
    refine lv_if_ge (tgt := 30) hx hb dX1_longPower_17 (by decide) (fun hc => ?_) (fun hc => ?_)
    · rw [pl_go, if_pos ((lg_cmp_ge _ _).mp hc)] at hg
      cases hg
      refine lv_lload hx hb dX1_longPower_30 (lv_at hl 1 rfl) ?_
      exact kk ls
    · rw [pl_go, if_neg (fun h => hc ((lg_cmp_ge _ _).mpr h))] at hg
      refine lv_lload hx hb dX1_longPower_20 (lv_at hl 1 rfl) ?_
      refine lv_lload hx hb dX1_longPower_22 (lv_at hl 1 rfl) ?_
      refine lv_ladd hx hb dX1_longPower_24 ?_
      refine lv_topl (fun v_1 ev_1 => ?_)
      refine lv_lstore (lv' := [(5, .long v_1), (3, .long most)]) hx hb dX1_longPower_25 hl (by decide) rfl (fun ls hl => ?_)
      refine lv_goto (tgt := 13) hx hb dX1_longPower_27 (by decide) ?_
      rw [← ev_1] at hg
      exact ih _ hg ls (lv_sub hl [1, 0] rfl)
end
set_option maxHeartbeats 4000000 in
set_option maxRecDepth 100000 in
/-- MixDeskModel.inverse -/
theorem mt_minv (l : Launch) (p0 : Int64) (n : Nat) (r0 : Int64) (hg : iv_go n p0 p0 0 = some r0) : Met l yX1_inverse (ws_ yX1_inverse cX1_inverse 5 (some .long)) ({ frames := 0, cells := 0, slots := 0, locals := 0 }) (fun v _ => v = ([.long p0] : List Value).toArray) (vp_Sl (fun r => r = r0)) 0 0 (fun _ => False) := by
  refine Met.ofW (cc := cX1_inverse) (maxL := 5) (ret := (some .long)) (by decide) rfl ?_
  intro p e s m args below meth c s₁ B hml hv
  have hv : args = ([.long p0] : List Value).toArray := hv
  subst hv
  have hx := B.exec
  have hb := B.bytes
  have hr := B.returns
  have hts := atoms_spec (ws := ws_ yX1_inverse cX1_inverse 5 (some .long)) B.pre
  have hts : ∀ w ∈ lw_all, w.before _ s = true := fun w h => hts w (List.mem_cons_of_mem _ h)
  have hown : s.vm.findClass RX1 = some m.cls := findClass_of_methodNamed B.named
  have hlocks := B.notSynchronized
  have hl := lv_entry ([.long p0]) (n := 5) (Nat.le_of_ble_eq_true rfl)
  rw [lg_entry_eq]
  generalize (lg_sl ([.long p0]) ++ List.replicate (5 - (lg_sl ([.long p0])).length) Slot.unset).toArray = ls at hl ⊢
  have hl : lv_has ls 5 [(0, .long p0)] := hl
  refine lv_lload_n hx hb dX1_inverse_0 rfl (lv_at hl 0 rfl) ?_
  refine lv_lstore_n (lv' := [(2, .long p0), (0, .long p0)]) hx hb dX1_inverse_1 rfl hl (by decide) rfl (fun ls hl => ?_)
  refine lv_iconst (v := 0) hx hb dX1_inverse_2 (by decide) ?_
  refine lv_istore (lv' := [(4, .int 0), (2, .long p0), (0, .long p0)]) hx hb dX1_inverse_3 hl (by decide) rfl (fun ls hl => ?_)
  refine lp_inv hx hb hown hts r0 (fun ls => ?_) n p0 p0 0 hg ls (lv_sub hl [2, 1, 0] rfl)
  exact W.lret hx hb hr (fun t ht hW => ⟨_, rfl, rfl, ht⟩) (fun q h => by cases h) dX1_inverse_29
set_option maxHeartbeats 4000000 in
set_option maxRecDepth 100000 in
/-- MixDeskModel.unshifted -/
theorem mt_muns (l : Launch) (p0 : Int64) (p1 : Int32) (p2 : Int32) (n : Nat) (r0 : Int64) (hg : us_go n p0 p1 p2 p0 p1 = some r0) : Met l yX1_unshifted (ws_ yX1_unshifted cX1_unshifted 7 (some .long)) ({ frames := 0, cells := 0, slots := 0, locals := 0 }) (fun v _ => v = ([.long p0, .int p1, .int p2] : List Value).toArray) (vp_Sl (fun r => r = r0)) 0 0 (fun _ => False) := by
  refine Met.ofW (cc := cX1_unshifted) (maxL := 7) (ret := (some .long)) (by decide) rfl ?_
  intro p e s m args below meth c s₁ B hml hv
  have hv : args = ([.long p0, .int p1, .int p2] : List Value).toArray := hv
  subst hv
  have hx := B.exec
  have hb := B.bytes
  have hr := B.returns
  have hts := atoms_spec (ws := ws_ yX1_unshifted cX1_unshifted 7 (some .long)) B.pre
  have hts : ∀ w ∈ lw_all, w.before _ s = true := fun w h => hts w (List.mem_cons_of_mem _ h)
  have hown : s.vm.findClass RX1 = some m.cls := findClass_of_methodNamed B.named
  have hlocks := B.notSynchronized
  have hl := lv_entry ([.long p0, .int p1, .int p2]) (n := 7) (Nat.le_of_ble_eq_true rfl)
  rw [lg_entry_eq]
  generalize (lg_sl ([.long p0, .int p1, .int p2]) ++ List.replicate (7 - (lg_sl ([.long p0, .int p1, .int p2])).length) Slot.unset).toArray = ls at hl ⊢
  have hl : lv_has ls 7 [(0, .long p0), (2, .int p1), (3, .int p2)] := hl
  refine lv_lload_n hx hb dX1_unshifted_0 rfl (lv_at hl 0 rfl) ?_
  refine lv_lstore (lv' := [(4, .long p0), (0, .long p0), (2, .int p1), (3, .int p2)]) hx hb dX1_unshifted_1 hl (by decide) rfl (fun ls hl => ?_)
  refine lv_iload_n hx hb dX1_unshifted_3 rfl (lv_at hl 2 rfl) ?_
  refine lv_istore (lv' := [(6, .int p1), (4, .long p0), (0, .long p0), (2, .int p1), (3, .int p2)]) hx hb dX1_unshifted_4 hl (by decide) rfl (fun ls hl => ?_)
  refine lp_uns hx hb hown hts r0 (fun ls => ?_) n p0 p1 p2 p0 p1 hg ls (lv_sub hl [2, 3, 4, 1, 0] rfl)
  exact W.lret hx hb hr (fun t ht hW => ⟨_, rfl, rfl, ht⟩) (fun q h => by cases h) dX1_unshifted_31
set_option maxHeartbeats 4000000 in
set_option maxRecDepth 100000 in
/-- MixDeskModel.ix -/
theorem mt_mmix (l : Launch) (h0 : Nat) (p0 : Int32) : Met l yX1_mix (ws_ yX1_mix cX1_mix 3 (some .int)) ({ frames := 0, cells := 0, slots := 0, locals := 0 }) (fun v _ => v = ([.ref h0, .int p0] : List Value).toArray) (vp_Si (fun r => r = hc_mix p0)) 0 0 (fun _ => False) := by
  refine Met.ofW (cc := cX1_mix) (maxL := 3) (ret := (some .int)) (by decide) rfl ?_
  intro p e s m args below meth c s₁ B hml hv
  have hv : args = ([.ref h0, .int p0] : List Value).toArray := hv
  subst hv
  have hx := B.exec
  have hb := B.bytes
  have hr := B.returns
  have hts := atoms_spec (ws := ws_ yX1_mix cX1_mix 3 (some .int)) B.pre
  have hts : ∀ w ∈ lw_all, w.before _ s = true := fun w h => hts w (List.mem_cons_of_mem _ h)
  have hown : s.vm.findClass RX1 = some m.cls := findClass_of_methodNamed B.named
  have hlocks := B.notSynchronized
  have hl := lv_entry ([.ref h0, .int p0]) (n := 3) (Nat.le_of_ble_eq_true rfl)
  rw [lg_entry_eq]
  generalize (lg_sl ([.ref h0, .int p0]) ++ List.replicate (3 - (lg_sl ([.ref h0, .int p0])).length) Slot.unset).toArray = ls at hl ⊢
  have hl : lv_has ls 3 [(0, .ref h0), (1, .int p0)] := hl
  refine lv_iload_n hx hb dX1_mix_0 rfl (lv_at hl 1 rfl) ?_
  refine lv_ldc (v := (-1640531527)) hx hb hown (hts _ q105) dX1_mix_1 ?_
  refine lv_imul hx hb dX1_mix_3 ?_
  refine lv_topi (fun v_1 ev_1 => ?_)
  refine lv_istore_n (lv' := [(2, .int v_1), (0, .ref h0), (1, .int p0)]) hx hb dX1_mix_4 rfl hl (by decide) rfl (fun ls hl => ?_)
  refine lv_iload_n hx hb dX1_mix_5 rfl (lv_at hl 0 rfl) ?_
  refine lv_iload_n hx hb dX1_mix_6 rfl (lv_at hl 0 rfl) ?_
  refine lv_bipush (v := 16) hx hb dX1_mix_7 (by decide) ?_
  refine lv_iushr (v := mz_u v_1 16) hx hb dX1_mix_9 rfl ?_
  refine lv_ixor hx hb dX1_mix_10 ?_
  exact W.iret (v := v_1 ^^^ (mz_u v_1 16)) hx hb hr (fun t ht hW => ⟨_, rfl, by rw [ev_1] <;> first | rfl | simp only [hc_mix, hc_mixL, hc_murL, mz_x, mz_y], ht⟩) (fun q h => by cases h) dX1_mix_11
set_option maxHeartbeats 4000000 in
set_option maxRecDepth 100000 in
/-- MixDeskModel.ongMix -/
theorem mt_mlmix (l : Launch) (h0 : Nat) (p0 : Int32) (p1 : Int32) : Met l yX1_longMix (ws_ yX1_longMix cX1_longMix 5 (some .long)) ({ frames := 1, cells := 0, slots := 0, locals := 23 }) (fun v _ => v = ([.ref h0, .int p0, .int p1] : List Value).toArray) (vp_Sl (fun r => r = f_lmix p0 p1)) 0 0 (fun _ => False) := by
  refine Met.ofW (cc := cX1_longMix) (maxL := 5) (ret := (some .long)) (by decide) rfl ?_
  intro p e s m args below meth c s₁ B hml hv
  have hv : args = ([.ref h0, .int p0, .int p1] : List Value).toArray := hv
  subst hv
  have hx := B.exec
  have hb := B.bytes
  have hr := B.returns
  have hts := atoms_spec (ws := ws_ yX1_longMix cX1_longMix 5 (some .long)) B.pre
  have hts : ∀ w ∈ lw_all, w.before _ s = true := fun w h => hts w (List.mem_cons_of_mem _ h)
  have hown : s.vm.findClass RX1 = some m.cls := findClass_of_methodNamed B.named
  have hlocks := B.notSynchronized
  have hl := lv_entry ([.ref h0, .int p0, .int p1]) (n := 5) (Nat.le_of_ble_eq_true rfl)
  rw [lg_entry_eq]
  generalize (lg_sl ([.ref h0, .int p0, .int p1]) ++ List.replicate (5 - (lg_sl ([.ref h0, .int p0, .int p1])).length) Slot.unset).toArray = ls at hl ⊢
  have hl : lv_has ls 5 [(0, .ref h0), (1, .int p0), (2, .int p1)] := hl
  refine lv_iload_n hx hb dX1_longMix_0 rfl (lv_at hl 1 rfl) ?_
  refine lv_iload_n hx hb dX1_longMix_1 rfl (lv_at hl 2 rfl) ?_
  refine vp_callSl (W.runS (As := [.int p0, .int p1]) (rest := []) ⟨hx, hb, hml, hown, hts⟩ (mt_mwide l p0 p1) (va_cwS 2 hts (lw_S q123 q124 q2 q125) rfl rfl rfl (by decide +kernel) ⟨Nat.le_of_ble_eq_true rfl, Nat.le_of_ble_eq_true rfl⟩) preEq rfl rfl hl.1 rfl (lv_room (Nat.le_of_ble_eq_true rfl)) dX1_longMix_2 ⟨Nat.le_of_ble_eq_true rfl, Nat.le_of_ble_eq_true rfl⟩) (fun v_1 ev_1 => ?_)
  refine lv_ldc2 (v := (-7046029254386353131)) hx hb hown (hts _ q127) dX1_longMix_5 ?_
  refine lv_lmul hx hb dX1_longMix_8 ?_
  refine lv_topl (fun v_2 ev_2 => ?_)
  refine lv_lstore_n (lv' := [(3, .long v_2), (0, .ref h0), (1, .int p0), (2, .int p1)]) hx hb dX1_longMix_9 rfl hl (by decide) rfl (fun ls hl => ?_)
  refine lv_lload_n hx hb dX1_longMix_10 rfl (lv_at hl 0 rfl) ?_
  refine lv_lload_n hx hb dX1_longMix_11 rfl (lv_at hl 0 rfl) ?_
  refine lv_bipush (v := 32) hx hb dX1_longMix_12 (by decide) ?_
  refine lv_lushr (v := mz_l v_2 32) hx hb dX1_longMix_14 rfl ?_
  refine lv_lxor hx hb dX1_longMix_15 ?_
  refine lv_topl (fun v_3 ev_3 => ?_)
  refine lv_lstore_n (lv' := [(3, .long v_3), (0, .ref h0), (1, .int p0), (2, .int p1)]) hx hb dX1_longMix_16 rfl hl (by decide) rfl (fun ls hl => ?_)
  refine lv_lload_n hx hb dX1_longMix_17 rfl (lv_at hl 0 rfl) ?_
  refine lv_lload_n hx hb dX1_longMix_18 rfl (lv_at hl 0 rfl) ?_
  refine lv_bipush (v := 16) hx hb dX1_longMix_19 (by decide) ?_
  refine lv_lushr (v := mz_l v_3 16) hx hb dX1_longMix_21 rfl ?_
  refine lv_lxor hx hb dX1_longMix_22 ?_
  exact W.lret (v := v_3 ^^^ (mz_l v_3 16)) hx hb hr (fun t ht hW => ⟨_, rfl, by rw [ev_3, ev_2, ev_1] <;> first | rfl | simp only [f_lmix, hc_mixL, hc_murL, mz_x, mz_y], ht⟩) (fun q h => by cases h) dX1_longMix_23
set_option maxHeartbeats 4000000 in
set_option maxRecDepth 100000 in
/-- MixDeskModel.urmur -/
theorem mt_mmur (l : Launch) (h0 : Nat) (p0 : Int32) : Met l yX1_murmur (ws_ yX1_murmur cX1_murmur 3 (some .int)) ({ frames := 0, cells := 0, slots := 0, locals := 0 }) (fun v _ => v = ([.ref h0, .int p0] : List Value).toArray) (vp_Si (fun r => r = hc_mur p0)) 0 0 (fun _ => False) := by
  refine Met.ofW (cc := cX1_murmur) (maxL := 3) (ret := (some .int)) (by decide) rfl ?_
  intro p e s m args below meth c s₁ B hml hv
  have hv : args = ([.ref h0, .int p0] : List Value).toArray := hv
  subst hv
  have hx := B.exec
  have hb := B.bytes
  have hr := B.returns
  have hts := atoms_spec (ws := ws_ yX1_murmur cX1_murmur 3 (some .int)) B.pre
  have hts : ∀ w ∈ lw_all, w.before _ s = true := fun w h => hts w (List.mem_cons_of_mem _ h)
  have hown : s.vm.findClass RX1 = some m.cls := findClass_of_methodNamed B.named
  have hlocks := B.notSynchronized
  have hl := lv_entry ([.ref h0, .int p0]) (n := 3) (Nat.le_of_ble_eq_true rfl)
  rw [lg_entry_eq]
  generalize (lg_sl ([.ref h0, .int p0]) ++ List.replicate (3 - (lg_sl ([.ref h0, .int p0])).length) Slot.unset).toArray = ls at hl ⊢
  have hl : lv_has ls 3 [(0, .ref h0), (1, .int p0)] := hl
  refine lv_iload_n hx hb dX1_murmur_0 rfl (lv_at hl 1 rfl) ?_
  refine lv_iload_n hx hb dX1_murmur_1 rfl (lv_at hl 1 rfl) ?_
  refine lv_bipush (v := 16) hx hb dX1_murmur_2 (by decide) ?_
  refine lv_iushr (v := mz_u p0 16) hx hb dX1_murmur_4 rfl ?_
  refine lv_ixor hx hb dX1_murmur_5 ?_
  refine lv_ldc (v := (-2048144789)) hx hb hown (hts _ q136) dX1_murmur_6 ?_
  refine lv_imul hx hb dX1_murmur_8 ?_
  refine lv_topi (fun v_1 ev_1 => ?_)
  refine lv_istore_n (lv' := [(2, .int v_1), (0, .ref h0), (1, .int p0)]) hx hb dX1_murmur_9 rfl hl (by decide) rfl (fun ls hl => ?_)
  refine lv_iload_n hx hb dX1_murmur_10 rfl (lv_at hl 0 rfl) ?_
  refine lv_iload_n hx hb dX1_murmur_11 rfl (lv_at hl 0 rfl) ?_
  refine lv_bipush (v := 13) hx hb dX1_murmur_12 (by decide) ?_
  refine lv_iushr (v := mz_u v_1 13) hx hb dX1_murmur_14 rfl ?_
  refine lv_ixor hx hb dX1_murmur_15 ?_
  refine lv_ldc (v := (-1028477387)) hx hb hown (hts _ q137) dX1_murmur_16 ?_
  refine lv_imul hx hb dX1_murmur_18 ?_
  refine lv_topi (fun v_2 ev_2 => ?_)
  refine lv_istore_n (lv' := [(2, .int v_2), (0, .ref h0), (1, .int p0)]) hx hb dX1_murmur_19 rfl hl (by decide) rfl (fun ls hl => ?_)
  refine lv_iload_n hx hb dX1_murmur_20 rfl (lv_at hl 0 rfl) ?_
  refine lv_iload_n hx hb dX1_murmur_21 rfl (lv_at hl 0 rfl) ?_
  refine lv_bipush (v := 16) hx hb dX1_murmur_22 (by decide) ?_
  refine lv_iushr (v := mz_u v_2 16) hx hb dX1_murmur_24 rfl ?_
  refine lv_ixor hx hb dX1_murmur_25 ?_
  exact W.iret (v := v_2 ^^^ (mz_u v_2 16)) hx hb hr (fun t ht hW => ⟨_, rfl, by rw [ev_2, ev_1] <;> first | rfl | simp only [hc_mur, hc_mixL, hc_murL, mz_x, mz_y], ht⟩) (fun q h => by cases h) dX1_murmur_26
set_option maxHeartbeats 4000000 in
set_option maxRecDepth 100000 in
/-- MixDeskModel.ongMurmur -/
theorem mt_mlmur (l : Launch) (h0 : Nat) (p0 : Int32) (p1 : Int32) : Met l yX1_longMurmur (ws_ yX1_longMurmur cX1_longMurmur 5 (some .long)) ({ frames := 1, cells := 0, slots := 0, locals := 23 }) (fun v _ => v = ([.ref h0, .int p0, .int p1] : List Value).toArray) (vp_Sl (fun r => r = f_lmur p0 p1)) 0 0 (fun _ => False) := by
  refine Met.ofW (cc := cX1_longMurmur) (maxL := 5) (ret := (some .long)) (by decide) rfl ?_
  intro p e s m args below meth c s₁ B hml hv
  have hv : args = ([.ref h0, .int p0, .int p1] : List Value).toArray := hv
  subst hv
  have hx := B.exec
  have hb := B.bytes
  have hr := B.returns
  have hts := atoms_spec (ws := ws_ yX1_longMurmur cX1_longMurmur 5 (some .long)) B.pre
  have hts : ∀ w ∈ lw_all, w.before _ s = true := fun w h => hts w (List.mem_cons_of_mem _ h)
  have hown : s.vm.findClass RX1 = some m.cls := findClass_of_methodNamed B.named
  have hlocks := B.notSynchronized
  have hl := lv_entry ([.ref h0, .int p0, .int p1]) (n := 5) (Nat.le_of_ble_eq_true rfl)
  rw [lg_entry_eq]
  generalize (lg_sl ([.ref h0, .int p0, .int p1]) ++ List.replicate (5 - (lg_sl ([.ref h0, .int p0, .int p1])).length) Slot.unset).toArray = ls at hl ⊢
  have hl : lv_has ls 5 [(0, .ref h0), (1, .int p0), (2, .int p1)] := hl
  refine lv_iload_n hx hb dX1_longMurmur_0 rfl (lv_at hl 1 rfl) ?_
  refine lv_iload_n hx hb dX1_longMurmur_1 rfl (lv_at hl 2 rfl) ?_
  refine vp_callSl (W.runS (As := [.int p0, .int p1]) (rest := []) ⟨hx, hb, hml, hown, hts⟩ (mt_mwide l p0 p1) (va_cwS 2 hts (lw_S q123 q124 q2 q125) rfl rfl rfl (by decide +kernel) ⟨Nat.le_of_ble_eq_true rfl, Nat.le_of_ble_eq_true rfl⟩) preEq rfl rfl hl.1 rfl (lv_room (Nat.le_of_ble_eq_true rfl)) dX1_longMurmur_2 ⟨Nat.le_of_ble_eq_true rfl, Nat.le_of_ble_eq_true rfl⟩) (fun v_1 ev_1 => ?_)
  refine lv_lstore_n (lv' := [(3, .long v_1), (0, .ref h0), (1, .int p0), (2, .int p1)]) hx hb dX1_longMurmur_5 rfl hl (by decide) rfl (fun ls hl => ?_)
  refine lv_lload_n hx hb dX1_longMurmur_6 rfl (lv_at hl 0 rfl) ?_
  refine lv_lload_n hx hb dX1_longMurmur_7 rfl (lv_at hl 0 rfl) ?_
  refine lv_bipush (v := 33) hx hb dX1_longMurmur_8 (by decide) ?_
  refine lv_lushr (v := mz_l v_1 33) hx hb dX1_longMurmur_10 rfl ?_
  refine lv_lxor hx hb dX1_longMurmur_11 ?_
  refine lv_ldc2 (v := (-49064778989728563)) hx hb hown (hts _ q142) dX1_longMurmur_12 ?_
  refine lv_lmul hx hb dX1_longMurmur_15 ?_
  refine lv_topl (fun v_2 ev_2 => ?_)
  refine lv_lstore_n (lv' := [(3, .long v_2), (0, .ref h0), (1, .int p0), (2, .int p1)]) hx hb dX1_longMurmur_16 rfl hl (by decide) rfl (fun ls hl => ?_)
  refine lv_lload_n hx hb dX1_longMurmur_17 rfl (lv_at hl 0 rfl) ?_
  refine lv_lload_n hx hb dX1_longMurmur_18 rfl (lv_at hl 0 rfl) ?_
  refine lv_bipush (v := 33) hx hb dX1_longMurmur_19 (by decide) ?_
  refine lv_lushr (v := mz_l v_2 33) hx hb dX1_longMurmur_21 rfl ?_
  refine lv_lxor hx hb dX1_longMurmur_22 ?_
  refine lv_ldc2 (v := (-4265267296055464877)) hx hb hown (hts _ q143) dX1_longMurmur_23 ?_
  refine lv_lmul hx hb dX1_longMurmur_26 ?_
  refine lv_topl (fun v_3 ev_3 => ?_)
  refine lv_lstore_n (lv' := [(3, .long v_3), (0, .ref h0), (1, .int p0), (2, .int p1)]) hx hb dX1_longMurmur_27 rfl hl (by decide) rfl (fun ls hl => ?_)
  refine lv_lload_n hx hb dX1_longMurmur_28 rfl (lv_at hl 0 rfl) ?_
  refine lv_lload_n hx hb dX1_longMurmur_29 rfl (lv_at hl 0 rfl) ?_
  refine lv_bipush (v := 33) hx hb dX1_longMurmur_30 (by decide) ?_
  refine lv_lushr (v := mz_l v_3 33) hx hb dX1_longMurmur_32 rfl ?_
  refine lv_lxor hx hb dX1_longMurmur_33 ?_
  exact W.lret (v := v_3 ^^^ (mz_l v_3 33)) hx hb hr (fun t ht hW => ⟨_, rfl, by rw [ev_3, ev_2, ev_1] <;> first | rfl | simp only [f_lmur, hc_mixL, hc_murL, mz_x, mz_y], ht⟩) (fun q h => by cases h) dX1_longMurmur_34
set_option maxHeartbeats 4000000 in
set_option maxRecDepth 100000 in
/-- MixDeskModel.ack -/
theorem mt_mback (l : Launch) (h0 : Nat) (p0 : Int32) : Met l yX1_back (ws_ yX1_back cX1_back 3 (some .int)) ({ frames := 1, cells := 0, slots := 0, locals := 26 }) (fun v _ => v = ([.ref h0, .int p0] : List Value).toArray) (vp_Si (fun r => r = hc_inv p0)) 0 0 (fun _ => False) := by
  refine Met.ofW (cc := cX1_back) (maxL := 3) (ret := (some .int)) (by decide) rfl ?_
  intro p e s m args below meth c s₁ B hml hv
  have hv : args = ([.ref h0, .int p0] : List Value).toArray := hv
  subst hv
  have hx := B.exec
  have hb := B.bytes
  have hr := B.returns
  have hts := atoms_spec (ws := ws_ yX1_back cX1_back 3 (some .int)) B.pre
  have hts : ∀ w ∈ lw_all, w.before _ s = true := fun w h => hts w (List.mem_cons_of_mem _ h)
  have hown : s.vm.findClass RX1 = some m.cls := findClass_of_methodNamed B.named
  have hlocks := B.notSynchronized
  have hl := lv_entry ([.ref h0, .int p0]) (n := 3) (Nat.le_of_ble_eq_true rfl)
  rw [lg_entry_eq]
  generalize (lg_sl ([.ref h0, .int p0]) ++ List.replicate (3 - (lg_sl ([.ref h0, .int p0])).length) Slot.unset).toArray = ls at hl ⊢
  have hl : lv_has ls 3 [(0, .ref h0), (1, .int p0)] := hl
  refine lv_iload_n hx hb dX1_back_0 rfl (lv_at hl 1 rfl) ?_
  refine lv_i2l (v := (Int32.toInt64 p0)) hx hb dX1_back_1 rfl ?_
  refine lv_ldc2 (v := 4294967295) hx hb hown (hts _ q110) dX1_back_2 ?_
  refine lv_land hx hb dX1_back_5 ?_
  refine lv_bipush (v := 16) hx hb dX1_back_6 (by decide) ?_
  refine lv_bipush (v := 32) hx hb dX1_back_8 (by decide) ?_
  refine vp_callSl (W.runS (As := [.long ((Int32.toInt64 p0) &&& 4294967295), .int 16, .int 32]) (rest := []) ⟨hx, hb, hml, hown, hts⟩ (mt_muns l ((Int32.toInt64 p0) &&& 4294967295) 16 32 4 _ (pl_us16_32 _)) (va_cwS 3 hts (lw_S q111 q112 q2 q113) rfl rfl rfl (by decide +kernel) ⟨Nat.le_of_ble_eq_true rfl, Nat.le_of_ble_eq_true rfl⟩) preEq rfl rfl hl.1 rfl (lv_room (Nat.le_of_ble_eq_true rfl)) dX1_back_10 ⟨Nat.le_of_ble_eq_true rfl, Nat.le_of_ble_eq_true rfl⟩) (fun v_1 ev_1 => ?_)
  refine lv_l2i (v := Int64.toInt32 v_1) hx hb dX1_back_13 rfl ?_
  refine lv_topi (fun v_2 ev_2 => ?_)
  refine lv_istore_n (lv' := [(2, .int v_2), (0, .ref h0), (1, .int p0)]) hx hb dX1_back_14 rfl hl (by decide) rfl (fun ls hl => ?_)
  refine lv_iload_n hx hb dX1_back_15 rfl (lv_at hl 0 rfl) ?_
  refine lv_ldc2 (v := (-1640531527)) hx hb hown (hts _ q114) dX1_back_16 ?_
  refine vp_callSl (W.runS (As := [.long (-1640531527)]) (rest := [.int v_2]) ⟨hx, hb, hml, hown, hts⟩ (mt_minv l (-1640531527) 6 _ pl_inv) (va_cwS 1 hts (lw_S q115 q116 q2 q117) rfl rfl rfl (by decide +kernel) ⟨Nat.le_of_ble_eq_true rfl, Nat.le_of_ble_eq_true rfl⟩) preEq rfl rfl hl.1 rfl (lv_room (Nat.le_of_ble_eq_true rfl)) dX1_back_19 ⟨Nat.le_of_ble_eq_true rfl, Nat.le_of_ble_eq_true rfl⟩) (fun v_3 ev_3 => ?_)
  refine lv_l2i (v := Int64.toInt32 v_3) hx hb dX1_back_22 rfl ?_
  refine lv_imul hx hb dX1_back_23 ?_
  exact W.iret (v := v_2 * (Int64.toInt32 v_3)) hx hb hr (fun t ht hW => ⟨_, rfl, by rw [ev_3, ev_2, ev_1]; exact pl_back p0, ht⟩) (fun q h => by cases h) dX1_back_24
set_option maxHeartbeats 4000000 in
set_option maxRecDepth 100000 in
/-- MixDeskModel.ongBack -/
theorem mt_mlback (l : Launch) (h0 : Nat) (p0 : Int32) (p1 : Int32) : Met l yX1_longBack (ws_ yX1_longBack cX1_longBack 5 (some .long)) ({ frames := 1, cells := 0, slots := 0, locals := 26 }) (fun v _ => v = ([.ref h0, .int p0, .int p1] : List Value).toArray) (vp_Sl (fun r => r = f_lback p0 p1)) 0 0 (fun _ => False) := by
  refine Met.ofW (cc := cX1_longBack) (maxL := 5) (ret := (some .long)) (by decide) rfl ?_
  intro p e s m args below meth c s₁ B hml hv
  have hv : args = ([.ref h0, .int p0, .int p1] : List Value).toArray := hv
  subst hv
  have hx := B.exec
  have hb := B.bytes
  have hr := B.returns
  have hts := atoms_spec (ws := ws_ yX1_longBack cX1_longBack 5 (some .long)) B.pre
  have hts : ∀ w ∈ lw_all, w.before _ s = true := fun w h => hts w (List.mem_cons_of_mem _ h)
  have hown : s.vm.findClass RX1 = some m.cls := findClass_of_methodNamed B.named
  have hlocks := B.notSynchronized
  have hl := lv_entry ([.ref h0, .int p0, .int p1]) (n := 5) (Nat.le_of_ble_eq_true rfl)
  rw [lg_entry_eq]
  generalize (lg_sl ([.ref h0, .int p0, .int p1]) ++ List.replicate (5 - (lg_sl ([.ref h0, .int p0, .int p1])).length) Slot.unset).toArray = ls at hl ⊢
  have hl : lv_has ls 5 [(0, .ref h0), (1, .int p0), (2, .int p1)] := hl
  refine lv_iload_n hx hb dX1_longBack_0 rfl (lv_at hl 1 rfl) ?_
  refine lv_iload_n hx hb dX1_longBack_1 rfl (lv_at hl 2 rfl) ?_
  refine vp_callSl (W.runS (As := [.int p0, .int p1]) (rest := []) ⟨hx, hb, hml, hown, hts⟩ (mt_mwide l p0 p1) (va_cwS 2 hts (lw_S q123 q124 q2 q125) rfl rfl rfl (by decide +kernel) ⟨Nat.le_of_ble_eq_true rfl, Nat.le_of_ble_eq_true rfl⟩) preEq rfl rfl hl.1 rfl (lv_room (Nat.le_of_ble_eq_true rfl)) dX1_longBack_2 ⟨Nat.le_of_ble_eq_true rfl, Nat.le_of_ble_eq_true rfl⟩) (fun v_1 ev_1 => ?_)
  refine lv_bipush (v := 16) hx hb dX1_longBack_5 (by decide) ?_
  refine lv_bipush (v := 64) hx hb dX1_longBack_7 (by decide) ?_
  refine vp_callSl (W.runS (As := [.long v_1, .int 16, .int 64]) (rest := []) ⟨hx, hb, hml, hown, hts⟩ (mt_muns l v_1 16 64 4 _ (pl_us16_64 _)) (va_cwS 3 hts (lw_S q111 q112 q2 q113) rfl rfl rfl (by decide +kernel) ⟨Nat.le_of_ble_eq_true rfl, Nat.le_of_ble_eq_true rfl⟩) preEq rfl rfl hl.1 rfl (lv_room (Nat.le_of_ble_eq_true rfl)) dX1_longBack_9 ⟨Nat.le_of_ble_eq_true rfl, Nat.le_of_ble_eq_true rfl⟩) (fun v_2 ev_2 => ?_)
  refine lv_lstore_n (lv' := [(3, .long v_2), (0, .ref h0), (1, .int p0), (2, .int p1)]) hx hb dX1_longBack_12 rfl hl (by decide) rfl (fun ls hl => ?_)
  refine lv_lload_n hx hb dX1_longBack_13 rfl (lv_at hl 0 rfl) ?_
  refine lv_bipush (v := 32) hx hb dX1_longBack_14 (by decide) ?_
  refine lv_bipush (v := 64) hx hb dX1_longBack_16 (by decide) ?_
  refine vp_callSl (W.runS (As := [.long v_2, .int 32, .int 64]) (rest := []) ⟨hx, hb, hml, hown, hts⟩ (mt_muns l v_2 32 64 4 _ (pl_us32_64 _)) (va_cwS 3 hts (lw_S q111 q112 q2 q113) rfl rfl rfl (by decide +kernel) ⟨Nat.le_of_ble_eq_true rfl, Nat.le_of_ble_eq_true rfl⟩) preEq rfl rfl hl.1 rfl (lv_room (Nat.le_of_ble_eq_true rfl)) dX1_longBack_18 ⟨Nat.le_of_ble_eq_true rfl, Nat.le_of_ble_eq_true rfl⟩) (fun v_3 ev_3 => ?_)
  refine lv_lstore_n (lv' := [(3, .long v_3), (0, .ref h0), (1, .int p0), (2, .int p1)]) hx hb dX1_longBack_21 rfl hl (by decide) rfl (fun ls hl => ?_)
  refine lv_lload_n hx hb dX1_longBack_22 rfl (lv_at hl 0 rfl) ?_
  refine lv_ldc2 (v := (-7046029254386353131)) hx hb hown (hts _ q127) dX1_longBack_23 ?_
  refine vp_callSl (W.runS (As := [.long (-7046029254386353131)]) (rest := [.long v_3]) ⟨hx, hb, hml, hown, hts⟩ (mt_minv l (-7046029254386353131) 6 _ pl_invL) (va_cwS 1 hts (lw_S q115 q116 q2 q117) rfl rfl rfl (by decide +kernel) ⟨Nat.le_of_ble_eq_true rfl, Nat.le_of_ble_eq_true rfl⟩) preEq rfl rfl hl.1 rfl (lv_room (Nat.le_of_ble_eq_true rfl)) dX1_longBack_26 ⟨Nat.le_of_ble_eq_true rfl, Nat.le_of_ble_eq_true rfl⟩) (fun v_4 ev_4 => ?_)
  refine lv_lmul hx hb dX1_longBack_29 ?_
  exact W.lret (v := v_3 * v_4) hx hb hr (fun t ht hW => ⟨_, rfl, by rw [ev_4, ev_3, ev_2, ev_1]; exact pl_lback p0 p1, ht⟩) (fun q h => by cases h) dX1_longBack_30
set_option maxHeartbeats 4000000 in
set_option maxRecDepth 100000 in
/-- MixDeskModel.power -/
theorem mt_mpow (l : Launch) (h0 : Nat) (p0 : Int32) : Met l yX1_power (ws_ yX1_power cX1_power 3 (some .int)) ({ frames := 0, cells := 0, slots := 0, locals := 0 }) (fun v _ => v = ([.ref h0, .int p0] : List Value).toArray) (vp_Si (fun r => r = f_pow p0)) 0 0 (fun _ => False) := by
  refine Met.ofW (cc := cX1_power) (maxL := 3) (ret := (some .int)) (by decide) rfl ?_
  intro p e s m args below meth c s₁ B hml hv
  have hv : args = ([.ref h0, .int p0] : List Value).toArray := hv
  subst hv
  have hx := B.exec
  have hb := B.bytes
  have hr := B.returns
  have hts := atoms_spec (ws := ws_ yX1_power cX1_power 3 (some .int)) B.pre
  have hts : ∀ w ∈ lw_all, w.before _ s = true := fun w h => hts w (List.mem_cons_of_mem _ h)
  have hown : s.vm.findClass RX1 = some m.cls := findClass_of_methodNamed B.named
  have hlocks := B.notSynchronized
  have hl := lv_entry ([.ref h0, .int p0]) (n := 3) (Nat.le_of_ble_eq_true rfl)
  rw [lg_entry_eq]
  generalize (lg_sl ([.ref h0, .int p0]) ++ List.replicate (3 - (lg_sl ([.ref h0, .int p0])).length) Slot.unset).toArray = ls at hl ⊢
  have hl : lv_has ls 3 [(0, .ref h0), (1, .int p0)] := hl
  refine lv_iconst (v := 1) hx hb dX1_power_0 (by decide) ?_
  refine lv_istore_n (lv' := [(2, .int 1), (0, .ref h0), (1, .int p0)]) hx hb dX1_power_1 rfl hl (by decide) rfl (fun ls hl => ?_)
  refine lp_pow hx hb hown hts h0 p0 (f_pow p0) (fun ls => ?_) 31 1 (pl_pow p0) ls (lv_sub hl [1, 2, 0] rfl)
  exact W.iret hx hb hr (fun t ht hW => ⟨_, rfl, rfl, ht⟩) (fun q h => by cases h) dX1_power_18
set_option maxHeartbeats 4000000 in
set_option maxRecDepth 100000 in
/-- MixDeskModel.longPower -/
theorem mt_mlpow (l : Launch) (h0 : Nat) (p0 : Int32) (p1 : Int32) : Met l yX1_longPower (ws_ yX1_longPower cX1_longPower 7 (some .long)) ({ frames := 1, cells := 0, slots := 0, locals := 23 }) (fun v _ => v = ([.ref h0, .int p0, .int p1] : List Value).toArray) (vp_Sl (fun r => r = f_lpow p0 p1)) 0 0 (fun _ => False) := by
  refine Met.ofW (cc := cX1_longPower) (maxL := 7) (ret := (some .long)) (by decide) rfl ?_
  intro p e s m args below meth c s₁ B hml hv
  have hv : args = ([.ref h0, .int p0, .int p1] : List Value).toArray := hv
  subst hv
  have hx := B.exec
  have hb := B.bytes
  have hr := B.returns
  have hts := atoms_spec (ws := ws_ yX1_longPower cX1_longPower 7 (some .long)) B.pre
  have hts : ∀ w ∈ lw_all, w.before _ s = true := fun w h => hts w (List.mem_cons_of_mem _ h)
  have hown : s.vm.findClass RX1 = some m.cls := findClass_of_methodNamed B.named
  have hlocks := B.notSynchronized
  have hl := lv_entry ([.ref h0, .int p0, .int p1]) (n := 7) (Nat.le_of_ble_eq_true rfl)
  rw [lg_entry_eq]
  generalize (lg_sl ([.ref h0, .int p0, .int p1]) ++ List.replicate (7 - (lg_sl ([.ref h0, .int p0, .int p1])).length) Slot.unset).toArray = ls at hl ⊢
  have hl : lv_has ls 7 [(0, .ref h0), (1, .int p0), (2, .int p1)] := hl
  refine lv_iload_n hx hb dX1_longPower_0 rfl (lv_at hl 1 rfl) ?_
  refine lv_iload_n hx hb dX1_longPower_1 rfl (lv_at hl 2 rfl) ?_
  refine vp_callSl (W.runS (As := [.int p0, .int p1]) (rest := []) ⟨hx, hb, hml, hown, hts⟩ (mt_mwide l p0 p1) (va_cwS 2 hts (lw_S q123 q124 q2 q125) rfl rfl rfl (by decide +kernel) ⟨Nat.le_of_ble_eq_true rfl, Nat.le_of_ble_eq_true rfl⟩) preEq rfl rfl hl.1 rfl (lv_room (Nat.le_of_ble_eq_true rfl)) dX1_longPower_2 ⟨Nat.le_of_ble_eq_true rfl, Nat.le_of_ble_eq_true rfl⟩) (fun v_1 ev_1 => ?_)
  refine lv_ldc2 (v := 4611686018427387903) hx hb hown (hts _ q153) dX1_longPower_5 ?_
  refine lv_land hx hb dX1_longPower_8 ?_
  refine lv_topl (fun v_2 ev_2 => ?_)
  refine lv_lstore_n (lv' := [(3, .long v_2), (0, .ref h0), (1, .int p0), (2, .int p1)]) hx hb dX1_longPower_9 rfl hl (by decide) rfl (fun ls hl => ?_)
  refine lv_lconst (v := 1) hx hb dX1_longPower_10 (by decide) ?_
  refine lv_lstore (lv' := [(5, .long 1), (3, .long v_2), (0, .ref h0), (1, .int p0), (2, .int p1)]) hx hb dX1_longPower_11 hl (by decide) rfl (fun ls hl => ?_)
  refine lp_lpow hx hb hown hts (f_lpow p0 p1) v_2 (fun ls => ?_) 63 1 (by rw [ev_2, ev_1]; exact pl_lpow p0 p1) ls (lv_sub hl [1, 0] rfl)
  exact W.lret hx hb hr (fun t ht hW => ⟨_, rfl, rfl, ht⟩) (fun q h => by cases h) dX1_longPower_32
end
section
/-- what stands all through the law's loop: the machine, the words, the script in the heap, the two desks -/
def lx_C (p : Program) (s : State) (m : MethodId) (c : Code) (b L : Nat) (xs : Nat → Int32) (H : Heap) (a0 a1 : Nat) : Prop := p.tables.exec = Jvm.exec ∧ c.code = code ∧ c.maxLocals = 4 ∧ s.vm.findClass "MixDeskLaw" = some m.cls ∧ (∀ w ∈ lw_all, w.before #[Value.ref b] s = true) ∧ va_X b L xs s H ∧ b < H.size ∧ (∃ cell : Cell, H[a0]? = some cell ∧ cell.vm.isStatics = false ∧ s.vm.findClass "MixDesk" = some cell.cls) ∧ (∃ cell : Cell, H[a1]? = some cell ∧ cell.vm.isStatics = false ∧ s.vm.findClass "MixDeskModel" = some cell.cls)
set_option maxHeartbeats 4000000 in
set_option maxRecDepth 100000 in
/-- case 0 of the law -/
theorem lc_0 {p : Program} {l : Launch} {e : Env} {s : State} {m : MethodId} {below : List Frame} {meth : Method} {c : Code} {Q : State → Prop} {b L : Nat} {xs : Nat → Int32} {H : Heap} {a0 a1 : Nat} {x3 : Int32} {ls : Array Slot} (C0 : lx_C p s m c b L xs H a0 a1) (hl : lv_has ls 4 [(0, .ref b), (1, .ref a0), (2, .ref a1), (3, .int x3)]) (h1 : vp_in (x3 + 1) L) (h2 : vp_in (x3 + 2) L) (k : W p l e room_1 s m #[Value.ref b] below meth c H [] 2 0 Q (F0 m 308 ls [])) : W p l e room_1 s m #[Value.ref b] below meth c H [] 2 0 Q (F0 m 80 ls []) := by
  obtain ⟨hx, hb, hml, hown, hts, hX, hbl, hR0, hR1⟩ := C0
  have hS : va_S (fun _ => False) H H [] := va_S.rf
  refine lv_aload_n hx hb dL_law_80 rfl (lv_at hl 1 rfl) ?_
  refine lv_aload_n hx hb dL_law_81 rfl (lv_at hl 0 rfl) ?_
  refine lv_iload_n hx hb dL_law_82 rfl (lv_at hl 3 rfl) ?_
  refine lv_iconst (v := 1) hx hb dL_law_83 (by decide) ?_
  refine lv_iadd hx hb dL_law_84 ?_
  refine va_sld hx hb hX hbl (fun h => h) hS h1 dL_law_85 ?_
  refine vp_callSi (W.runV (As := [.int (xs (x3 + 1).toNatClampNeg)]) (rest := []) ⟨hx, hb, hml, hown, hts⟩ (mt_dmix l a0 (xs (x3 + 1).toNatClampNeg)) (cwV 1 hts (lw_V q16 q17 q18 q1 q19) rfl rfl rfl (by decide +kernel) ⟨Nat.le_of_ble_eq_true rfl, Nat.le_of_ble_eq_true rfl⟩) ⟨fun _ _ _ _ q => q, hR0, fun _ _ _ => rfl⟩ rfl rfl hl.1 rfl (lv_room (Nat.le_of_ble_eq_true rfl)) dL_law_86 ⟨Nat.le_of_ble_eq_true rfl, Nat.le_of_ble_eq_true rfl⟩) (fun v_1 ev_1 => ?_)
  refine lv_aload_n hx hb dL_law_89 rfl (lv_at hl 2 rfl) ?_
  refine lv_aload_n hx hb dL_law_90 rfl (lv_at hl 0 rfl) ?_
  refine lv_iload_n hx hb dL_law_91 rfl (lv_at hl 3 rfl) ?_
  refine lv_iconst (v := 1) hx hb dL_law_92 (by decide) ?_
  refine lv_iadd hx hb dL_law_93 ?_
  refine va_sld hx hb hX hbl (fun h => h) hS h1 dL_law_94 ?_
  refine vp_callSi (W.runV (As := [.int (xs (x3 + 1).toNatClampNeg)]) (rest := [.int v_1]) ⟨hx, hb, hml, hown, hts⟩ (mt_mmix l a1 (xs (x3 + 1).toNatClampNeg)) (cwV 1 hts (lw_V q101 q102 q103 q2 q104) rfl rfl rfl (by decide +kernel) ⟨Nat.le_of_ble_eq_true rfl, Nat.le_of_ble_eq_true rfl⟩) ⟨fun _ _ _ _ q => q, hR1, fun _ _ _ => rfl⟩ rfl rfl hl.1 rfl (lv_room (Nat.le_of_ble_eq_true rfl)) dL_law_95 ⟨Nat.le_of_ble_eq_true rfl, Nat.le_of_ble_eq_true rfl⟩) (fun v_2 ev_2 => ?_)
  exact lv_icmp_eq (tgt := 308) hx hb dL_law_98 (by decide) (fun _ => k) (fun hn => absurd (Eq.trans ev_1 (Eq.symm ev_2)) hn)
set_option maxHeartbeats 4000000 in
set_option maxRecDepth 100000 in
/-- case 1 of the law -/
theorem lc_1 {p : Program} {l : Launch} {e : Env} {s : State} {m : MethodId} {below : List Frame} {meth : Method} {c : Code} {Q : State → Prop} {b L : Nat} {xs : Nat → Int32} {H : Heap} {a0 a1 : Nat} {x3 : Int32} {ls : Array Slot} (C0 : lx_C p s m c b L xs H a0 a1) (hl : lv_has ls 4 [(0, .ref b), (1, .ref a0), (2, .ref a1), (3, .int x3)]) (h1 : vp_in (x3 + 1) L) (h2 : vp_in (x3 + 2) L) (k : W p l e room_1 s m #[Value.ref b] below meth c H [] 2 0 Q (F0 m 308 ls [])) : W p l e room_1 s m #[Value.ref b] below meth c H [] 2 0 Q (F0 m 103 ls []) := by
  obtain ⟨hx, hb, hml, hown, hts, hX, hbl, hR0, hR1⟩ := C0
  have hS : va_S (fun _ => False) H H [] := va_S.rf
  refine lv_aload_n hx hb dL_law_103 rfl (lv_at hl 1 rfl) ?_
  refine lv_aload_n hx hb dL_law_104 rfl (lv_at hl 0 rfl) ?_
  refine lv_iload_n hx hb dL_law_105 rfl (lv_at hl 3 rfl) ?_
  refine lv_iconst (v := 1) hx hb dL_law_106 (by decide) ?_
  refine lv_iadd hx hb dL_law_107 ?_
  refine va_sld hx hb hX hbl (fun h => h) hS h1 dL_law_108 ?_
  refine vp_callSi (W.runV (As := [.int (xs (x3 + 1).toNatClampNeg)]) (rest := []) ⟨hx, hb, hml, hown, hts⟩ (mt_dback l a0 (xs (x3 + 1).toNatClampNeg)) (cwV 1 hts (lw_V q24 q25 q26 q1 q27) rfl rfl rfl (by decide +kernel) ⟨Nat.le_of_ble_eq_true rfl, Nat.le_of_ble_eq_true rfl⟩) ⟨fun _ _ _ _ q => q, hR0, fun _ _ _ => rfl⟩ rfl rfl hl.1 rfl (lv_room (Nat.le_of_ble_eq_true rfl)) dL_law_109 ⟨Nat.le_of_ble_eq_true rfl, Nat.le_of_ble_eq_true rfl⟩) (fun v_1 ev_1 => ?_)
  refine lv_aload_n hx hb dL_law_112 rfl (lv_at hl 2 rfl) ?_
  refine lv_aload_n hx hb dL_law_113 rfl (lv_at hl 0 rfl) ?_
  refine lv_iload_n hx hb dL_law_114 rfl (lv_at hl 3 rfl) ?_
  refine lv_iconst (v := 1) hx hb dL_law_115 (by decide) ?_
  refine lv_iadd hx hb dL_law_116 ?_
  refine va_sld hx hb hX hbl (fun h => h) hS h1 dL_law_117 ?_
  refine vp_callSi (W.runV (As := [.int (xs (x3 + 1).toNatClampNeg)]) (rest := [.int v_1]) ⟨hx, hb, hml, hown, hts⟩ (mt_mback l a1 (xs (x3 + 1).toNatClampNeg)) (cwV 1 hts (lw_V q106 q107 q108 q2 q109) rfl rfl rfl (by decide +kernel) ⟨Nat.le_of_ble_eq_true rfl, Nat.le_of_ble_eq_true rfl⟩) ⟨fun _ _ _ _ q => q, hR1, fun _ _ _ => rfl⟩ rfl rfl hl.1 rfl (lv_room (Nat.le_of_ble_eq_true rfl)) dL_law_118 ⟨Nat.le_of_ble_eq_true rfl, Nat.le_of_ble_eq_true rfl⟩) (fun v_2 ev_2 => ?_)
  exact lv_icmp_eq (tgt := 308) hx hb dL_law_121 (by decide) (fun _ => k) (fun hn => absurd (Eq.trans ev_1 (Eq.symm ev_2)) hn)
set_option maxHeartbeats 4000000 in
set_option maxRecDepth 100000 in
/-- case 2 of the law -/
theorem lc_2 {p : Program} {l : Launch} {e : Env} {s : State} {m : MethodId} {below : List Frame} {meth : Method} {c : Code} {Q : State → Prop} {b L : Nat} {xs : Nat → Int32} {H : Heap} {a0 a1 : Nat} {x3 : Int32} {ls : Array Slot} (C0 : lx_C p s m c b L xs H a0 a1) (hl : lv_has ls 4 [(0, .ref b), (1, .ref a0), (2, .ref a1), (3, .int x3)]) (h1 : vp_in (x3 + 1) L) (h2 : vp_in (x3 + 2) L) (k : W p l e room_1 s m #[Value.ref b] below meth c H [] 2 0 Q (F0 m 308 ls [])) : W p l e room_1 s m #[Value.ref b] below meth c H [] 2 0 Q (F0 m 126 ls []) := by
  obtain ⟨hx, hb, hml, hown, hts, hX, hbl, hR0, hR1⟩ := C0
  have hS : va_S (fun _ => False) H H [] := va_S.rf
  refine lv_aload_n hx hb dL_law_126 rfl (lv_at hl 1 rfl) ?_
  refine lv_aload_n hx hb dL_law_127 rfl (lv_at hl 0 rfl) ?_
  refine lv_iload_n hx hb dL_law_128 rfl (lv_at hl 3 rfl) ?_
  refine lv_iconst (v := 1) hx hb dL_law_129 (by decide) ?_
  refine lv_iadd hx hb dL_law_130 ?_
  refine va_sld hx hb hX hbl (fun h => h) hS h1 dL_law_131 ?_
  refine lv_aload_n hx hb dL_law_132 rfl (lv_at hl 0 rfl) ?_
  refine lv_iload_n hx hb dL_law_133 rfl (lv_at hl 3 rfl) ?_
  refine lv_iconst (v := 2) hx hb dL_law_134 (by decide) ?_
  refine lv_iadd hx hb dL_law_135 ?_
  refine va_sld hx hb hX hbl (fun h => h) hS h2 dL_law_136 ?_
  refine vp_callSl (W.runV (As := [.int (xs (x3 + 1).toNatClampNeg), .int (xs (x3 + 2).toNatClampNeg)]) (rest := []) ⟨hx, hb, hml, hown, hts⟩ (mt_dlmix l a0 (xs (x3 + 1).toNatClampNeg) (xs (x3 + 2).toNatClampNeg)) (cwV 2 hts (lw_V q32 q33 q34 q1 q35) rfl rfl rfl (by decide +kernel) ⟨Nat.le_of_ble_eq_true rfl, Nat.le_of_ble_eq_true rfl⟩) ⟨fun _ _ _ _ q => q, hR0, fun _ _ _ => rfl⟩ rfl rfl hl.1 rfl (lv_room (Nat.le_of_ble_eq_true rfl)) dL_law_137 ⟨Nat.le_of_ble_eq_true rfl, Nat.le_of_ble_eq_true rfl⟩) (fun v_1 ev_1 => ?_)
  refine lv_aload_n hx hb dL_law_140 rfl (lv_at hl 2 rfl) ?_
  refine lv_aload_n hx hb dL_law_141 rfl (lv_at hl 0 rfl) ?_
  refine lv_iload_n hx hb dL_law_142 rfl (lv_at hl 3 rfl) ?_
  refine lv_iconst (v := 1) hx hb dL_law_143 (by decide) ?_
  refine lv_iadd hx hb dL_law_144 ?_
  refine va_sld hx hb hX hbl (fun h => h) hS h1 dL_law_145 ?_
  refine lv_aload_n hx hb dL_law_146 rfl (lv_at hl 0 rfl) ?_
  refine lv_iload_n hx hb dL_law_147 rfl (lv_at hl 3 rfl) ?_
  refine lv_iconst (v := 2) hx hb dL_law_148 (by decide) ?_
  refine lv_iadd hx hb dL_law_149 ?_
  refine va_sld hx hb hX hbl (fun h => h) hS h2 dL_law_150 ?_
  refine vp_callSl (W.runV (As := [.int (xs (x3 + 1).toNatClampNeg), .int (xs (x3 + 2).toNatClampNeg)]) (rest := [.long v_1]) ⟨hx, hb, hml, hown, hts⟩ (mt_mlmix l a1 (xs (x3 + 1).toNatClampNeg) (xs (x3 + 2).toNatClampNeg)) (cwV 2 hts (lw_V q119 q120 q121 q2 q122) rfl rfl rfl (by decide +kernel) ⟨Nat.le_of_ble_eq_true rfl, Nat.le_of_ble_eq_true rfl⟩) ⟨fun _ _ _ _ q => q, hR1, fun _ _ _ => rfl⟩ rfl rfl hl.1 rfl (lv_room (Nat.le_of_ble_eq_true rfl)) dL_law_151 ⟨Nat.le_of_ble_eq_true rfl, Nat.le_of_ble_eq_true rfl⟩) (fun v_2 ev_2 => ?_)
  refine W.lcmp hx hb dL_law_154 ?_
  exact lv_if_eq (tgt := 308) hx hb dL_law_155 (by decide) (fun _ => k) (fun hn => absurd ((lg_cmp_eq _ _).mpr (Eq.trans ev_1 (Eq.symm ev_2))) hn)
set_option maxHeartbeats 4000000 in
set_option maxRecDepth 100000 in
/-- case 3 of the law -/
theorem lc_3 {p : Program} {l : Launch} {e : Env} {s : State} {m : MethodId} {below : List Frame} {meth : Method} {c : Code} {Q : State → Prop} {b L : Nat} {xs : Nat → Int32} {H : Heap} {a0 a1 : Nat} {x3 : Int32} {ls : Array Slot} (C0 : lx_C p s m c b L xs H a0 a1) (hl : lv_has ls 4 [(0, .ref b), (1, .ref a0), (2, .ref a1), (3, .int x3)]) (h1 : vp_in (x3 + 1) L) (h2 : vp_in (x3 + 2) L) (k : W p l e room_1 s m #[Value.ref b] below meth c H [] 2 0 Q (F0 m 308 ls [])) : W p l e room_1 s m #[Value.ref b] below meth c H [] 2 0 Q (F0 m 160 ls []) := by
  obtain ⟨hx, hb, hml, hown, hts, hX, hbl, hR0, hR1⟩ := C0
  have hS : va_S (fun _ => False) H H [] := va_S.rf
  refine lv_aload_n hx hb dL_law_160 rfl (lv_at hl 1 rfl) ?_
  refine lv_aload_n hx hb dL_law_161 rfl (lv_at hl 0 rfl) ?_
  refine lv_iload_n hx hb dL_law_162 rfl (lv_at hl 3 rfl) ?_
  refine lv_iconst (v := 1) hx hb dL_law_163 (by decide) ?_
  refine lv_iadd hx hb dL_law_164 ?_
  refine va_sld hx hb hX hbl (fun h => h) hS h1 dL_law_165 ?_
  refine lv_aload_n hx hb dL_law_166 rfl (lv_at hl 0 rfl) ?_
  refine lv_iload_n hx hb dL_law_167 rfl (lv_at hl 3 rfl) ?_
  refine lv_iconst (v := 2) hx hb dL_law_168 (by decide) ?_
  refine lv_iadd hx hb dL_law_169 ?_
  refine va_sld hx hb hX hbl (fun h => h) hS h2 dL_law_170 ?_
  refine vp_callSl (W.runV (As := [.int (xs (x3 + 1).toNatClampNeg), .int (xs (x3 + 2).toNatClampNeg)]) (rest := []) ⟨hx, hb, hml, hown, hts⟩ (mt_dlback l a0 (xs (x3 + 1).toNatClampNeg) (xs (x3 + 2).toNatClampNeg)) (cwV 2 hts (lw_V q44 q45 q46 q1 q47) rfl rfl rfl (by decide +kernel) ⟨Nat.le_of_ble_eq_true rfl, Nat.le_of_ble_eq_true rfl⟩) ⟨fun _ _ _ _ q => q, hR0, fun _ _ _ => rfl⟩ rfl rfl hl.1 rfl (lv_room (Nat.le_of_ble_eq_true rfl)) dL_law_171 ⟨Nat.le_of_ble_eq_true rfl, Nat.le_of_ble_eq_true rfl⟩) (fun v_1 ev_1 => ?_)
  refine lv_aload_n hx hb dL_law_174 rfl (lv_at hl 2 rfl) ?_
  refine lv_aload_n hx hb dL_law_175 rfl (lv_at hl 0 rfl) ?_
  refine lv_iload_n hx hb dL_law_176 rfl (lv_at hl 3 rfl) ?_
  refine lv_iconst (v := 1) hx hb dL_law_177 (by decide) ?_
  refine lv_iadd hx hb dL_law_178 ?_
  refine va_sld hx hb hX hbl (fun h => h) hS h1 dL_law_179 ?_
  refine lv_aload_n hx hb dL_law_180 rfl (lv_at hl 0 rfl) ?_
  refine lv_iload_n hx hb dL_law_181 rfl (lv_at hl 3 rfl) ?_
  refine lv_iconst (v := 2) hx hb dL_law_182 (by decide) ?_
  refine lv_iadd hx hb dL_law_183 ?_
  refine va_sld hx hb hX hbl (fun h => h) hS h2 dL_law_184 ?_
  refine vp_callSl (W.runV (As := [.int (xs (x3 + 1).toNatClampNeg), .int (xs (x3 + 2).toNatClampNeg)]) (rest := [.long v_1]) ⟨hx, hb, hml, hown, hts⟩ (mt_mlback l a1 (xs (x3 + 1).toNatClampNeg) (xs (x3 + 2).toNatClampNeg)) (cwV 2 hts (lw_V q128 q129 q130 q2 q131) rfl rfl rfl (by decide +kernel) ⟨Nat.le_of_ble_eq_true rfl, Nat.le_of_ble_eq_true rfl⟩) ⟨fun _ _ _ _ q => q, hR1, fun _ _ _ => rfl⟩ rfl rfl hl.1 rfl (lv_room (Nat.le_of_ble_eq_true rfl)) dL_law_185 ⟨Nat.le_of_ble_eq_true rfl, Nat.le_of_ble_eq_true rfl⟩) (fun v_2 ev_2 => ?_)
  refine W.lcmp hx hb dL_law_188 ?_
  exact lv_if_eq (tgt := 308) hx hb dL_law_189 (by decide) (fun _ => k) (fun hn => absurd ((lg_cmp_eq _ _).mpr (Eq.trans ev_1 (Eq.symm ev_2))) hn)
set_option maxHeartbeats 4000000 in
set_option maxRecDepth 100000 in
/-- case 4 of the law -/
theorem lc_4 {p : Program} {l : Launch} {e : Env} {s : State} {m : MethodId} {below : List Frame} {meth : Method} {c : Code} {Q : State → Prop} {b L : Nat} {xs : Nat → Int32} {H : Heap} {a0 a1 : Nat} {x3 : Int32} {ls : Array Slot} (C0 : lx_C p s m c b L xs H a0 a1) (hl : lv_has ls 4 [(0, .ref b), (1, .ref a0), (2, .ref a1), (3, .int x3)]) (h1 : vp_in (x3 + 1) L) (h2 : vp_in (x3 + 2) L) (k : W p l e room_1 s m #[Value.ref b] below meth c H [] 2 0 Q (F0 m 308 ls [])) : W p l e room_1 s m #[Value.ref b] below meth c H [] 2 0 Q (F0 m 194 ls []) := by
  obtain ⟨hx, hb, hml, hown, hts, hX, hbl, hR0, hR1⟩ := C0
  have hS : va_S (fun _ => False) H H [] := va_S.rf
  refine lv_aload_n hx hb dL_law_194 rfl (lv_at hl 1 rfl) ?_
  refine lv_aload_n hx hb dL_law_195 rfl (lv_at hl 0 rfl) ?_
  refine lv_iload_n hx hb dL_law_196 rfl (lv_at hl 3 rfl) ?_
  refine lv_iconst (v := 1) hx hb dL_law_197 (by decide) ?_
  refine lv_iadd hx hb dL_law_198 ?_
  refine va_sld hx hb hX hbl (fun h => h) hS h1 dL_law_199 ?_
  refine vp_callSi (W.runV (As := [.int (xs (x3 + 1).toNatClampNeg)]) (rest := []) ⟨hx, hb, hml, hown, hts⟩ (mt_dmur l a0 (xs (x3 + 1).toNatClampNeg)) (cwV 1 hts (lw_V q52 q53 q54 q1 q55) rfl rfl rfl (by decide +kernel) ⟨Nat.le_of_ble_eq_true rfl, Nat.le_of_ble_eq_true rfl⟩) ⟨fun _ _ _ _ q => q, hR0, fun _ _ _ => rfl⟩ rfl rfl hl.1 rfl (lv_room (Nat.le_of_ble_eq_true rfl)) dL_law_200 ⟨Nat.le_of_ble_eq_true rfl, Nat.le_of_ble_eq_true rfl⟩) (fun v_1 ev_1 => ?_)
  refine lv_aload_n hx hb dL_law_203 rfl (lv_at hl 2 rfl) ?_
  refine lv_aload_n hx hb dL_law_204 rfl (lv_at hl 0 rfl) ?_
  refine lv_iload_n hx hb dL_law_205 rfl (lv_at hl 3 rfl) ?_
  refine lv_iconst (v := 1) hx hb dL_law_206 (by decide) ?_
  refine lv_iadd hx hb dL_law_207 ?_
  refine va_sld hx hb hX hbl (fun h => h) hS h1 dL_law_208 ?_
  refine vp_callSi (W.runV (As := [.int (xs (x3 + 1).toNatClampNeg)]) (rest := [.int v_1]) ⟨hx, hb, hml, hown, hts⟩ (mt_mmur l a1 (xs (x3 + 1).toNatClampNeg)) (cwV 1 hts (lw_V q132 q133 q134 q2 q135) rfl rfl rfl (by decide +kernel) ⟨Nat.le_of_ble_eq_true rfl, Nat.le_of_ble_eq_true rfl⟩) ⟨fun _ _ _ _ q => q, hR1, fun _ _ _ => rfl⟩ rfl rfl hl.1 rfl (lv_room (Nat.le_of_ble_eq_true rfl)) dL_law_209 ⟨Nat.le_of_ble_eq_true rfl, Nat.le_of_ble_eq_true rfl⟩) (fun v_2 ev_2 => ?_)
  exact lv_icmp_eq (tgt := 308) hx hb dL_law_212 (by decide) (fun _ => k) (fun hn => absurd (Eq.trans ev_1 (Eq.symm ev_2)) hn)
set_option maxHeartbeats 4000000 in
set_option maxRecDepth 100000 in
/-- case 5 of the law -/
theorem lc_5 {p : Program} {l : Launch} {e : Env} {s : State} {m : MethodId} {below : List Frame} {meth : Method} {c : Code} {Q : State → Prop} {b L : Nat} {xs : Nat → Int32} {H : Heap} {a0 a1 : Nat} {x3 : Int32} {ls : Array Slot} (C0 : lx_C p s m c b L xs H a0 a1) (hl : lv_has ls 4 [(0, .ref b), (1, .ref a0), (2, .ref a1), (3, .int x3)]) (h1 : vp_in (x3 + 1) L) (h2 : vp_in (x3 + 2) L) (k : W p l e room_1 s m #[Value.ref b] below meth c H [] 2 0 Q (F0 m 308 ls [])) : W p l e room_1 s m #[Value.ref b] below meth c H [] 2 0 Q (F0 m 217 ls []) := by
  obtain ⟨hx, hb, hml, hown, hts, hX, hbl, hR0, hR1⟩ := C0
  have hS : va_S (fun _ => False) H H [] := va_S.rf
  refine lv_aload_n hx hb dL_law_217 rfl (lv_at hl 1 rfl) ?_
  refine lv_aload_n hx hb dL_law_218 rfl (lv_at hl 0 rfl) ?_
  refine lv_iload_n hx hb dL_law_219 rfl (lv_at hl 3 rfl) ?_
  refine lv_iconst (v := 1) hx hb dL_law_220 (by decide) ?_
  refine lv_iadd hx hb dL_law_221 ?_
  refine va_sld hx hb hX hbl (fun h => h) hS h1 dL_law_222 ?_
  refine lv_aload_n hx hb dL_law_223 rfl (lv_at hl 0 rfl) ?_
  refine lv_iload_n hx hb dL_law_224 rfl (lv_at hl 3 rfl) ?_
  refine lv_iconst (v := 2) hx hb dL_law_225 (by decide) ?_
  refine lv_iadd hx hb dL_law_226 ?_
  refine va_sld hx hb hX hbl (fun h => h) hS h2 dL_law_227 ?_
  refine vp_callSl (W.runV (As := [.int (xs (x3 + 1).toNatClampNeg), .int (xs (x3 + 2).toNatClampNeg)]) (rest := []) ⟨hx, hb, hml, hown, hts⟩ (mt_dlmur l a0 (xs (x3 + 1).toNatClampNeg) (xs (x3 + 2).toNatClampNeg)) (cwV 2 hts (lw_V q61 q62 q63 q1 q64) rfl rfl rfl (by decide +kernel) ⟨Nat.le_of_ble_eq_true rfl, Nat.le_of_ble_eq_true rfl⟩) ⟨fun _ _ _ _ q => q, hR0, fun _ _ _ => rfl⟩ rfl rfl hl.1 rfl (lv_room (Nat.le_of_ble_eq_true rfl)) dL_law_228 ⟨Nat.le_of_ble_eq_true rfl, Nat.le_of_ble_eq_true rfl⟩) (fun v_1 ev_1 => ?_)
  refine lv_aload_n hx hb dL_law_231 rfl (lv_at hl 2 rfl) ?_
  refine lv_aload_n hx hb dL_law_232 rfl (lv_at hl 0 rfl) ?_
  refine lv_iload_n hx hb dL_law_233 rfl (lv_at hl 3 rfl) ?_
  refine lv_iconst (v := 1) hx hb dL_law_234 (by decide) ?_
  refine lv_iadd hx hb dL_law_235 ?_
  refine va_sld hx hb hX hbl (fun h => h) hS h1 dL_law_236 ?_
  refine lv_aload_n hx hb dL_law_237 rfl (lv_at hl 0 rfl) ?_
  refine lv_iload_n hx hb dL_law_238 rfl (lv_at hl 3 rfl) ?_
  refine lv_iconst (v := 2) hx hb dL_law_239 (by decide) ?_
  refine lv_iadd hx hb dL_law_240 ?_
  refine va_sld hx hb hX hbl (fun h => h) hS h2 dL_law_241 ?_
  refine vp_callSl (W.runV (As := [.int (xs (x3 + 1).toNatClampNeg), .int (xs (x3 + 2).toNatClampNeg)]) (rest := [.long v_1]) ⟨hx, hb, hml, hown, hts⟩ (mt_mlmur l a1 (xs (x3 + 1).toNatClampNeg) (xs (x3 + 2).toNatClampNeg)) (cwV 2 hts (lw_V q138 q139 q140 q2 q141) rfl rfl rfl (by decide +kernel) ⟨Nat.le_of_ble_eq_true rfl, Nat.le_of_ble_eq_true rfl⟩) ⟨fun _ _ _ _ q => q, hR1, fun _ _ _ => rfl⟩ rfl rfl hl.1 rfl (lv_room (Nat.le_of_ble_eq_true rfl)) dL_law_242 ⟨Nat.le_of_ble_eq_true rfl, Nat.le_of_ble_eq_true rfl⟩) (fun v_2 ev_2 => ?_)
  refine W.lcmp hx hb dL_law_245 ?_
  exact lv_if_eq (tgt := 308) hx hb dL_law_246 (by decide) (fun _ => k) (fun hn => absurd ((lg_cmp_eq _ _).mpr (Eq.trans ev_1 (Eq.symm ev_2))) hn)
set_option maxHeartbeats 4000000 in
set_option maxRecDepth 100000 in
/-- case 6 of the law -/
theorem lc_6 {p : Program} {l : Launch} {e : Env} {s : State} {m : MethodId} {below : List Frame} {meth : Method} {c : Code} {Q : State → Prop} {b L : Nat} {xs : Nat → Int32} {H : Heap} {a0 a1 : Nat} {x3 : Int32} {ls : Array Slot} (C0 : lx_C p s m c b L xs H a0 a1) (hl : lv_has ls 4 [(0, .ref b), (1, .ref a0), (2, .ref a1), (3, .int x3)]) (h1 : vp_in (x3 + 1) L) (h2 : vp_in (x3 + 2) L) (k : W p l e room_1 s m #[Value.ref b] below meth c H [] 2 0 Q (F0 m 308 ls [])) : W p l e room_1 s m #[Value.ref b] below meth c H [] 2 0 Q (F0 m 251 ls []) := by
  obtain ⟨hx, hb, hml, hown, hts, hX, hbl, hR0, hR1⟩ := C0
  have hS : va_S (fun _ => False) H H [] := va_S.rf
  refine lv_aload_n hx hb dL_law_251 rfl (lv_at hl 1 rfl) ?_
  refine lv_aload_n hx hb dL_law_252 rfl (lv_at hl 0 rfl) ?_
  refine lv_iload_n hx hb dL_law_253 rfl (lv_at hl 3 rfl) ?_
  refine lv_iconst (v := 1) hx hb dL_law_254 (by decide) ?_
  refine lv_iadd hx hb dL_law_255 ?_
  refine va_sld hx hb hX hbl (fun h => h) hS h1 dL_law_256 ?_
  refine vp_callSi (W.runV (As := [.int (xs (x3 + 1).toNatClampNeg)]) (rest := []) ⟨hx, hb, hml, hown, hts⟩ (mt_dpow l a0 (xs (x3 + 1).toNatClampNeg)) (cwV 1 hts (lw_V q70 q71 q72 q1 q73) rfl rfl rfl (by decide +kernel) ⟨Nat.le_of_ble_eq_true rfl, Nat.le_of_ble_eq_true rfl⟩) ⟨fun _ _ _ _ q => q, hR0, fun _ _ _ => rfl⟩ rfl rfl hl.1 rfl (lv_room (Nat.le_of_ble_eq_true rfl)) dL_law_257 ⟨Nat.le_of_ble_eq_true rfl, Nat.le_of_ble_eq_true rfl⟩) (fun v_1 ev_1 => ?_)
  refine lv_aload_n hx hb dL_law_260 rfl (lv_at hl 2 rfl) ?_
  refine lv_aload_n hx hb dL_law_261 rfl (lv_at hl 0 rfl) ?_
  refine lv_iload_n hx hb dL_law_262 rfl (lv_at hl 3 rfl) ?_
  refine lv_iconst (v := 1) hx hb dL_law_263 (by decide) ?_
  refine lv_iadd hx hb dL_law_264 ?_
  refine va_sld hx hb hX hbl (fun h => h) hS h1 dL_law_265 ?_
  refine vp_callSi (W.runV (As := [.int (xs (x3 + 1).toNatClampNeg)]) (rest := [.int v_1]) ⟨hx, hb, hml, hown, hts⟩ (mt_mpow l a1 (xs (x3 + 1).toNatClampNeg)) (cwV 1 hts (lw_V q144 q145 q146 q2 q147) rfl rfl rfl (by decide +kernel) ⟨Nat.le_of_ble_eq_true rfl, Nat.le_of_ble_eq_true rfl⟩) ⟨fun _ _ _ _ q => q, hR1, fun _ _ _ => rfl⟩ rfl rfl hl.1 rfl (lv_room (Nat.le_of_ble_eq_true rfl)) dL_law_266 ⟨Nat.le_of_ble_eq_true rfl, Nat.le_of_ble_eq_true rfl⟩) (fun v_2 ev_2 => ?_)
  exact lv_icmp_eq (tgt := 308) hx hb dL_law_269 (by decide) (fun _ => k) (fun hn => absurd (Eq.trans ev_1 (Eq.symm ev_2)) hn)
set_option maxHeartbeats 4000000 in
set_option maxRecDepth 100000 in
/-- case 7 of the law -/
theorem lc_7 {p : Program} {l : Launch} {e : Env} {s : State} {m : MethodId} {below : List Frame} {meth : Method} {c : Code} {Q : State → Prop} {b L : Nat} {xs : Nat → Int32} {H : Heap} {a0 a1 : Nat} {x3 : Int32} {ls : Array Slot} (C0 : lx_C p s m c b L xs H a0 a1) (hl : lv_has ls 4 [(0, .ref b), (1, .ref a0), (2, .ref a1), (3, .int x3)]) (h1 : vp_in (x3 + 1) L) (h2 : vp_in (x3 + 2) L) (k : W p l e room_1 s m #[Value.ref b] below meth c H [] 2 0 Q (F0 m 308 ls [])) : W p l e room_1 s m #[Value.ref b] below meth c H [] 2 0 Q (F0 m 274 ls []) := by
  obtain ⟨hx, hb, hml, hown, hts, hX, hbl, hR0, hR1⟩ := C0
  have hS : va_S (fun _ => False) H H [] := va_S.rf
  refine lv_aload_n hx hb dL_law_274 rfl (lv_at hl 1 rfl) ?_
  refine lv_aload_n hx hb dL_law_275 rfl (lv_at hl 0 rfl) ?_
  refine lv_iload_n hx hb dL_law_276 rfl (lv_at hl 3 rfl) ?_
  refine lv_iconst (v := 1) hx hb dL_law_277 (by decide) ?_
  refine lv_iadd hx hb dL_law_278 ?_
  refine va_sld hx hb hX hbl (fun h => h) hS h1 dL_law_279 ?_
  refine lv_aload_n hx hb dL_law_280 rfl (lv_at hl 0 rfl) ?_
  refine lv_iload_n hx hb dL_law_281 rfl (lv_at hl 3 rfl) ?_
  refine lv_iconst (v := 2) hx hb dL_law_282 (by decide) ?_
  refine lv_iadd hx hb dL_law_283 ?_
  refine va_sld hx hb hX hbl (fun h => h) hS h2 dL_law_284 ?_
  refine vp_callSl (W.runV (As := [.int (xs (x3 + 1).toNatClampNeg), .int (xs (x3 + 2).toNatClampNeg)]) (rest := []) ⟨hx, hb, hml, hown, hts⟩ (mt_dlpow l a0 (xs (x3 + 1).toNatClampNeg) (xs (x3 + 2).toNatClampNeg)) (cwV 2 hts (lw_V q82 q83 q84 q1 q85) rfl rfl rfl (by decide +kernel) ⟨Nat.le_of_ble_eq_true rfl, Nat.le_of_ble_eq_true rfl⟩) ⟨fun _ _ _ _ q => q, hR0, fun _ _ _ => rfl⟩ rfl rfl hl.1 rfl (lv_room (Nat.le_of_ble_eq_true rfl)) dL_law_285 ⟨Nat.le_of_ble_eq_true rfl, Nat.le_of_ble_eq_true rfl⟩) (fun v_1 ev_1 => ?_)
  refine lv_aload_n hx hb dL_law_288 rfl (lv_at hl 2 rfl) ?_
  refine lv_aload_n hx hb dL_law_289 rfl (lv_at hl 0 rfl) ?_
  refine lv_iload_n hx hb dL_law_290 rfl (lv_at hl 3 rfl) ?_
  refine lv_iconst (v := 1) hx hb dL_law_291 (by decide) ?_
  refine lv_iadd hx hb dL_law_292 ?_
  refine va_sld hx hb hX hbl (fun h => h) hS h1 dL_law_293 ?_
  refine lv_aload_n hx hb dL_law_294 rfl (lv_at hl 0 rfl) ?_
  refine lv_iload_n hx hb dL_law_295 rfl (lv_at hl 3 rfl) ?_
  refine lv_iconst (v := 2) hx hb dL_law_296 (by decide) ?_
  refine lv_iadd hx hb dL_law_297 ?_
  refine va_sld hx hb hX hbl (fun h => h) hS h2 dL_law_298 ?_
  refine vp_callSl (W.runV (As := [.int (xs (x3 + 1).toNatClampNeg), .int (xs (x3 + 2).toNatClampNeg)]) (rest := [.long v_1]) ⟨hx, hb, hml, hown, hts⟩ (mt_mlpow l a1 (xs (x3 + 1).toNatClampNeg) (xs (x3 + 2).toNatClampNeg)) (cwV 2 hts (lw_V q149 q150 q151 q2 q152) rfl rfl rfl (by decide +kernel) ⟨Nat.le_of_ble_eq_true rfl, Nat.le_of_ble_eq_true rfl⟩) ⟨fun _ _ _ _ q => q, hR1, fun _ _ _ => rfl⟩ rfl rfl hl.1 rfl (lv_room (Nat.le_of_ble_eq_true rfl)) dL_law_299 ⟨Nat.le_of_ble_eq_true rfl, Nat.le_of_ble_eq_true rfl⟩) (fun v_2 ev_2 => ?_)
  refine W.lcmp hx hb dL_law_302 ?_
  exact lv_if_eq (tgt := 308) hx hb dL_law_303 (by decide) (fun _ => k) (fun hn => absurd ((lg_cmp_eq _ _).mpr (Eq.trans ev_1 (Eq.symm ev_2))) hn)
end
section
/-! THE CLAIM OUT OF ONE WALK OF THE LAW'S BODY. Your part is whole_start (and what it stands on); all else here is the same for every law, but numbers. -/
def R_law : String := "MixDeskLaw"
def lw_P (b : Addr) (xs : List Int32) (args : Array Value) (s : State) : Prop := args = #[.ref b] ∧ s.IntsAt b xs ∧ xs.length ≤ 384 ∧ (Jvm.Cond.and given_1 narrow_1).before args s = true
def lw_Q (_ : Array Value) (s : State) (o : Outcome) (t : State) : Prop := o = .returned (some (.int 1)) ∧ Framed s o t [] 600000 7290000
def lw_Z (below : List Frame) (a : Array Value) (s : State) : State → Prop := fun t => ∃ o, t.status = .running ∧ Ended t below o ∧ lw_Q a s o t
/-- the law's own end, with 1 on the stack, nothing written that was there before, its room as the claim has it -/
theorem lw_ret {p : Program} {l : Launch} {e : Env} {s : State} {m : MethodId} {below : List Frame} {meth : Method} {c : Code} {b : Nat} (hx : p.tables.exec = Jvm.exec) (hb : c.code = code) (hr : meth.sig.returnType = ret) (hlocks : meth.locks = false) {pc : Nat} {H : Heap} {ls : Array Slot} (hdg : decode code pc = .ok (.ireturn, 1)) : W p l e room_1 s m #[Value.ref b] below meth c H [] 600000 7290000 (lw_Z below #[Value.ref b] s) (F0 m pc ls [.int 1]) := by
  intro T hT X
  obtain ⟨fs, hret, hrun, hended, hW, hframe⟩ := X.leave (v := some (.int 1)) (hlocks := hlocks) (fun h => by rw [hr] at h; cases h)
  have hmeth' : T.vm.method? m = some meth := X.method'
  refine ⟨T.setFrames fs, ?_, .returned (some (.int 1)), hrun, hended, rfl, ⟨_, rfl⟩, hW, hframe⟩
  jvm_step X.here [X.here.top, hx, hb, hdg, hmeth', hr, ret, narrow_b1]
  (try refine ⟨rfl, ?_⟩); (try refine ⟨rfl, ?_⟩)
  first | (intro acts; rw [hret _ acts rfl rfl rfl]) | rw [hret _ _ rfl rfl rfl]
  exact Steps.refl _
/-- what holds at the law's entry: the machine, the code, the tables' words (any of lw_tbl by 'hts w (by decide +kernel)'), the script of L ints xs at the cell b, what the Statement gives of the start (any of its parts by flat_of_before) -/
def lw_At (p : Program) (s : State) (m : MethodId) (meth : Method) (c : Code) (b L : Nat) (xs : Nat → Int32) : Prop :=
  p.tables.exec = Jvm.exec ∧ c.code = code ∧ meth.sig.returnType = ret ∧ c.maxLocals = 4 ∧ s.vm.findClass R_law = some m.cls ∧ (∀ w ∈ lw_tbl, w.before #[Value.ref b] s = true) ∧ va_X b L xs s s.heap ∧ b < s.heap.size ∧ meth.locks = false ∧ (Jvm.Cond.and given_1 narrow_1).before #[Value.ref b] s = true
-- ===== YOUR PART BEGINS =====
/-- the loop's test: i > L - 6 -/
theorem lx_gt {L i : Nat} (hL : L ≤ 384) (hi : i ≤ L) (h : ¬ nI L - 6 < nI i) : i + 6 ≤ L := by
  have e1 : (nI L - nI 6).toInt = (L : Int) - (6 : Nat) := pk_sub_toInt (by omega) (by omega)
  have e2 : (nI i).toInt = (i : Int) := nI_toInt (by omega)
  have h : ¬ nI L - nI 6 < nI i := h
  rw [Int32.lt_iff_toInt_lt, e1, e2] at h
  omega
set_option maxHeartbeats 4000000 in
set_option maxRecDepth 100000 in
/-- THE LAW'S LOOP at its head, i ints read -/
theorem law_loop {p : Program} {l : Launch} {e : Env} {s : State} {m : MethodId} {below : List Frame} {meth : Method} {c : Code} {b L : Nat} {xs : Nat → Int32} {H : Heap} {a0 a1 : Nat} (hL : L ≤ 384) (hr : meth.sig.returnType = ret) (hlocks : meth.locks = false) (C1 : lx_C p s m c b L xs H a0 a1) :
    ∀ (n i : Nat) (x3 : Int32), i ≤ L → L + 1 ≤ i + n → x3 = nI i → ∀ (ls : Array Slot), lv_has ls 4 [(0, .ref b), (1, .ref a0), (2, .ref a1), (3, .int x3)] → W p l e room_1 s m #[Value.ref b] below meth c H [] 2 0 (lw_Z below #[Value.ref b] s) (F0 m 18 ls []) := by
  obtain ⟨hx, hb, hml, hown, hts, hX, hbl, hR0, hR1⟩ := id C1
  have hS : va_S (fun _ => False) H H [] := va_S.rf
  intro n
  induction n with
  | zero =>
    intro i x3 h1 h2
    exact absurd h2 (by omega)
  | succ n ih =>
    intro i x3 hi hin ex3 ls hl
    refine lv_iload_n hx hb dL_law_18 rfl (lv_at hl 3 rfl) ?_
    refine lv_aload_n hx hb dL_law_19 rfl (lv_at hl 0 rfl) ?_
    refine va_slen hx hb hX hbl (fun h => h) hS dL_law_20 ?_
    refine lv_bipush (v := 6) hx hb dL_law_21 (by decide) ?_
    refine lv_isub hx hb dL_law_23 ?_
    refine lv_icmp_gt (tgt := 314) hx hb dL_law_24 (by decide) (fun hc => ?_) (fun hc => ?_)
    · refine lv_iconst (v := 1) hx hb dL_law_314 (by decide) ?_
      refine W.widen (k := 600000) (n := 7290000) (Nat.le_of_ble_eq_true rfl) (Nat.le_of_ble_eq_true rfl) ?_
      exact lw_ret hx hb hr hlocks dL_law_315
    · have h6 : i + 6 ≤ L := lx_gt hL hi (by rw [ex3] at hc; exact hc)
      have h0 : vp_in x3 L := by rw [ex3]; exact vp_in_nI (by omega) (by omega)
      have h1 : vp_in (x3 + 1) L := by
        rw [ex3, nI_1]
        exact vp_in_nI (by omega) (by omega)
      have h2 : vp_in (x3 + 2) L := by
        rw [ex3, show (2 : Int32) = nI 2 from rfl, nI_add]
        exact vp_in_nI (by omega) (by omega)
      have k : W p l e room_1 s m #[Value.ref b] below meth c H [] 2 0 (lw_Z below #[Value.ref b] s) (F0 m 308 ls []) := by
        obtain ⟨y3, ey3⟩ : ∃ y : Int32, y = x3 + 6 := ⟨_, rfl⟩
        refine lv_iinc (v := y3) (lv' := [(3, .int y3), (0, .ref b), (1, .ref a0), (2, .ref a1)]) hx hb dL_law_308 hl (k := 3) rfl (by rw [ey3]; exact congrArg (fun z : Int32 => x3 + z) (show Int32.ofInt 6 = (6 : Int32) by decide)) (by decide) rfl (fun ls hl => ?_)
        refine lv_goto (tgt := 18) hx hb dL_law_311 (by decide) ?_
        exact ih (i + 6) y3 h6 (by omega) (by rw [ey3, ex3, show (6 : Int32) = nI 6 from rfl, nI_add]) ls (lv_sub hl [1, 2, 3, 0] rfl)
      refine lv_aload_n hx hb dL_law_27 rfl (lv_at hl 0 rfl) ?_
      refine lv_iload_n hx hb dL_law_28 rfl (lv_at hl 3 rfl) ?_
      refine va_sld hx hb hX hbl (fun h => h) hS h0 dL_law_29 ?_
      refine lv_bipush (v := 7) hx hb dL_law_30 (by decide) ?_
      refine lv_iand hx hb dL_law_32 ?_
      obtain ⟨j, hj, ej⟩ := pk_andE (xs x3.toNatClampNeg) (m := 7) 3 (by decide)
      rw [ej]
      rcases (show j = 0 ∨ j = 1 ∨ j = 2 ∨ j = 3 ∨ j = 4 ∨ j = 5 ∨ j = 6 ∨ j = 7 by omega) with rfl | rfl | rfl | rfl | rfl | rfl | rfl | rfl
      · exact lv_tableIn (off := 47) (tgt := 80) hx hb dL_law_33 (by decide) (by decide) (by decide) (by decide) (lc_0 C1 hl h1 h2 k)
      · exact lv_tableIn (off := 70) (tgt := 103) hx hb dL_law_33 (by decide) (by decide) (by decide) (by decide) (lc_1 C1 hl h1 h2 k)
      · exact lv_tableIn (off := 93) (tgt := 126) hx hb dL_law_33 (by decide) (by decide) (by decide) (by decide) (lc_2 C1 hl h1 h2 k)
      · exact lv_tableIn (off := 127) (tgt := 160) hx hb dL_law_33 (by decide) (by decide) (by decide) (by decide) (lc_3 C1 hl h1 h2 k)
      · exact lv_tableIn (off := 161) (tgt := 194) hx hb dL_law_33 (by decide) (by decide) (by decide) (by decide) (lc_4 C1 hl h1 h2 k)
      · exact lv_tableIn (off := 184) (tgt := 217) hx hb dL_law_33 (by decide) (by decide) (by decide) (by decide) (lc_5 C1 hl h1 h2 k)
      · exact lv_tableIn (off := 218) (tgt := 251) hx hb dL_law_33 (by decide) (by decide) (by decide) (by decide) (lc_6 C1 hl h1 h2 k)
      · exact lv_tableIn (off := 241) (tgt := 274) hx hb dL_law_33 (by decide) (by decide) (by decide) (by decide) (lc_7 C1 hl h1 h2 k)
/-- a cell more at the heap's end -/
theorem lx_push (H : Heap) (cell : Cell) : (H.push cell)[H.size]? = some cell ∧ (H.push cell).size = H.size + 1 ∧ ∀ q : Nat, q < H.size → (H.push cell)[q]? = H[q]? :=
  ⟨by simp, by simp, fun q hq => by rw [Array.getElem?_push, if_neg (Nat.ne_of_lt hq)]⟩
set_option maxHeartbeats 4000000 in
set_option maxRecDepth 100000 in
/-- THE LAW, from its entry -/
theorem whole_start {p : Program} {e : Env} {s : State} {m : MethodId} {below : List Frame} {meth : Method} {c : Code} (l : Launch) (hflags : l.flags = flags0) {b L : Nat} {xs : Nat → Int32} (hL : L ≤ 384) (C0 : lw_At p s m meth c b L xs) : W p l e room_1 s m #[Value.ref b] below meth c s.heap [] 0 0 (lw_Z below #[Value.ref b] s) (entryFrame m ([Value.ref b] : List Value).toArray 4) := by
  obtain ⟨hx, hb, hr, hml, hown, hts0, hX, hbl, hlocks, hgv⟩ := C0
  have hts : ∀ w ∈ lw_all, w.before #[Value.ref b] s = true := fun w h => hts0 w (lw_all_tbl h)
  have hl := lv_entry ([.ref b]) (n := 4) (Nat.le_of_ble_eq_true rfl)
  rw [lg_entry_eq]
  generalize (lg_sl ([.ref b]) ++ List.replicate (4 - (lg_sl ([.ref b])).length) Slot.unset).toArray = ls at hl ⊢
  have hl : lv_has ls 4 [(0, .ref b)] := hl
  refine W.newc hx hb hown (hts _ q7) (hts _ q8) (hts _ q1) rfl dL_law_0 (Nat.le_of_ble_eq_true rfl) (Nat.le_of_ble_eq_true rfl) (fun c0 k0 hf0 hk0 ho0 hn0 => ?_)
  obtain ⟨e1, z1, o1⟩ := lx_push s.heap { cls := c0, slots := k0.instanceTypes.map defaultValue, vm := .none }
  refine W.eq (g2 := F0 m 3 ls [.ref s.heap.size]) rfl ?_
  generalize s.heap.push { cls := c0, slots := k0.instanceTypes.map defaultValue, vm := .none } = H1 at e1 z1 o1 ⊢
  refine lv_dup hx hb dL_law_3 rfl ?_
  refine va_csv (W.runI (As := []) (rest := [.ref s.heap.size]) ⟨hx, hb, hml, hown, hts⟩ (mt_desk l s.heap.size) (cwI 0 hts (lw_meth q11) rfl rfl rfl (hts _ q1) (hts _ q9) (hts _ q10) rfl (by decide +kernel) ⟨Nat.le_of_ble_eq_true rfl, Nat.le_of_ble_eq_true rfl⟩) preEq rfl rfl hl.1 rfl (lv_room (Nat.le_of_ble_eq_true rfl)) dL_law_4 ⟨Nat.le_of_ble_eq_true rfl, Nat.le_of_ble_eq_true rfl⟩) (fun _ => ?_)
  refine lv_astore_n (lv' := [(1, .ref s.heap.size), (0, .ref b)]) hx hb dL_law_7 rfl hl (by decide) rfl (fun ls hl => ?_)
  refine W.newc hx hb hown (hts _ q94) (hts _ q95) (hts _ q2) rfl dL_law_8 (Nat.le_of_ble_eq_true rfl) (Nat.le_of_ble_eq_true rfl) (fun c1 k1 hf1 hk1 ho1 hn1 => ?_)
  obtain ⟨e2, z2, o2⟩ := lx_push H1 { cls := c1, slots := k1.instanceTypes.map defaultValue, vm := .none }
  refine W.eq (g2 := F0 m 11 ls [.ref H1.size]) rfl ?_
  generalize H1.push { cls := c1, slots := k1.instanceTypes.map defaultValue, vm := .none } = H2 at e2 z2 o2 ⊢
  refine lv_dup hx hb dL_law_11 rfl ?_
  refine va_csv (W.runI (As := []) (rest := [.ref H1.size]) ⟨hx, hb, hml, hown, hts⟩ (mt_model l H1.size) (cwI 0 hts (lw_meth q98) rfl rfl rfl (hts _ q2) (hts _ q96) (hts _ q97) rfl (by decide +kernel) ⟨Nat.le_of_ble_eq_true rfl, Nat.le_of_ble_eq_true rfl⟩) preEq rfl rfl hl.1 rfl (lv_room (Nat.le_of_ble_eq_true rfl)) dL_law_12 ⟨Nat.le_of_ble_eq_true rfl, Nat.le_of_ble_eq_true rfl⟩) (fun _ => ?_)
  refine lv_astore_n (lv' := [(2, .ref H1.size), (1, .ref s.heap.size), (0, .ref b)]) hx hb dL_law_15 rfl hl (by decide) rfl (fun ls hl => ?_)
  refine lv_iconst (v := 0) hx hb dL_law_16 (by decide) ?_
  refine lv_istore_n (lv' := [(3, .int 0), (2, .ref H1.size), (1, .ref s.heap.size), (0, .ref b)]) hx hb dL_law_17 rfl hl (by decide) rfl (fun ls hl => ?_)
  have hb2 : H2[b]? = s.heap[b]? := (o2 b (by omega)).trans (o1 b hbl)
  have hX2 : va_X b L xs s H2 := by
    obtain ⟨scr, g1, g2⟩ := hX
    exact ⟨scr, hb2.trans g1, g2⟩
  have hC : lx_C p s m c b L xs H2 s.heap.size H1.size := ⟨hx, hb, hml, hown, hts, hX2, by omega, ⟨_, (o2 s.heap.size (by omega)).trans e1, rfl, hf0⟩, ⟨_, e2, rfl, hf1⟩⟩
  refine W.widen (k := 2) (n := 0) (Nat.le_of_ble_eq_true rfl) (Nat.le_of_ble_eq_true rfl) ?_
  exact law_loop hL hr hlocks hC (L + 1) 0 0 (Nat.zero_le L) (by omega) nI_0.symm ls (lv_sub hl [3, 2, 1, 0] rfl)
-- ===== YOUR PART ENDS =====
set_option maxHeartbeats 4000000 in
theorem lw_walk (l : Launch) (hflags : l.flags = flags0) (b : Addr) (xs : List Int32) : MetFree l x (headSpec (Jvm.Cond.code x code maxLocals ret :: tables_1) room_1) (lw_P b xs) (fun _ _ _ _ _ => True) lw_Q := by
  refine MetFree.of_bodyS (code := code) (maxLocals := maxLocals) (ret := ret) (by decide) ?_ ?_
  · intro args s m h hn
    obtain ⟨meth, c, h1, h2, h3, h4, h5, h6, -, -⟩ := Cond.code_spec hn (atoms_spec (ws := Jvm.Cond.code x code maxLocals ret :: tables_1) h _ List.mem_cons_self)
    exact ⟨meth, c, h1, h2, h3, h4, h5, h6⟩
  · intro p e s m args below meth c s₁ B hml0 hP _
    obtain ⟨rfl, hx, hbd, hgv⟩ := hP
    obtain ⟨scr, harrAt, hlist, hof, hsmall⟩ := hx
    obtain ⟨hcb, hkn, -, -⟩ := State.arrayAt?_spec harrAt
    have hown : s.vm.findClass R_law = some m.cls := findClass_of_methodNamed B.named
    have hts0 : ∀ c ∈ (Jvm.Cond.code x code maxLocals ret :: tables_1), c.before #[Value.ref b] s = true := atoms_spec (ws := Jvm.Cond.code x code maxLocals ret :: tables_1) B.pre
    have hts : ∀ w ∈ lw_tbl, w.before #[Value.ref b] s = true := k2_hts_sels lw_privs (fun w hw => hts0 w (List.mem_cons_of_mem _ hw)) lw_privs_ok
    have hml : c.maxLocals = 4 := B.maxLocals_eq (hts0 _ List.mem_cons_self)
    have X₀ : Stand p l e room_1 s m #[Value.ref b] below meth c s₁ [] 0 0 := Stand.of_body B
    have hh0 : s₁.heap = s.heap := by rw [B.state]; rfl
    have hsz : scr.slots.size = xs.length := by rw [← Array.length_toList, hlist, List.length_map]
    have hval : ∀ j : Nat, j < xs.length → scr.slots[j]? = some (.int (xs.getD j 0)) := fun j hj => by
      rw [← Array.getElem?_toList, hlist]
      simp [hj]
    have hbl : b < s.heap.size := (Array.getElem?_eq_some_iff.mp hcb).1
    have hX : va_X b xs.length (fun j => xs.getD j 0) s s.heap := ⟨scr, hcb, hof, hkn, hsz, hval⟩
    have K : W p l e room_1 s m #[Value.ref b] below meth c s₁.heap [] 0 0 (lw_Z below #[Value.ref b] s) (entryFrame m ([Value.ref b] : List Value).toArray 4) := by
      rw [hh0]
      exact whole_start l hflags hbd ⟨B.exec, B.bytes, B.returns, hml, hown, hts, hX, hbl, B.notSynchronized, hgv⟩
    obtain ⟨t, a1, o, b1, b2, b3⟩ := K s₁ rfl X₀
    exact ⟨t, o, a1, b1, b2, b3⟩
theorem lw_pre_spec {args : Array Value} {s : State} (h : (Jvm.Cond.and given_1 narrow_1).before args s = true) (hr : rest_1_c.before args s = true) : ∃ (b : Addr) (xs : List Int32), lw_P b xs args s := by
  have hs := flat_of_before _ h
  have hq := flat_of_before _ hr
  have hc : (Cond.count 1).before args s = true := hs _ (by decide +kernel)
  have harr : (Cond.arrayOf (.arg 0) .int).before args s = true := hs _ (by decide +kernel)
  have hle : (Cond.le (.length (.arg 0)) (.int 384)).before args s = true := hs _ (by decide +kernel)
  have hlen : (Cond.isInt (.length (.arg 0))).before args s = true := hq _ (by decide +kernel)
  have hall : (Cond.all (.arg 0) (.isInt (.elem (.arg 0) (.index 0)))).before args s = true := hq _ (by decide +kernel)
  obtain ⟨b, xs, hb, hx⟩ := State.ints_of_pre rfl harr hlen hall
  have hsm : xs.length < 2 ^ 31 := hx.choose_spec.2.2.2
  have hev : (Term.length (.arg 0)).eval args s none [] s = some (.int xs.length.toInt32) := hx.length_eval hb
  have hv := Cond.le_ints hev (show (Term.int 384).eval args s none [] s = some (.int 384) from rfl)
  have hd : xs.length.toInt32 ≤ 384 := by
    simpa [Cond.before, Cond.holds, hv] using hle
  have hN : xs.length ≤ 384 := (Int32.ofNat_le_ofNat hsm (by decide)).mp (show Int32.ofNat xs.length ≤ Int32.ofNat 384 from hd)
  exact ⟨b, xs, Cond.one_arg hc (show args[0]? = some (.ref b) from hb), hx, hN, h⟩
theorem lw_comes (l : Launch) (hflags : l.flags = flags0) : Comes l x (Jvm.Cond.code x code maxLocals ret :: tables_1) room_1 (fun tb e args s => Calls_1 tb e args s ∧ rest_1 tb e args s ∧ Pre_1 tb e args s)
    (fun _ _ args s o t => lw_Q args s o t) := by
  intro p e ha hc hk s m args below hf hfit hheap happ hpre
  obtain ⟨b, xs, hP⟩ := lw_pre_spec hpre.2.2 hpre.2.1
  obtain ⟨k, o, h1, h2, h3, hQ⟩ := lw_walk l hflags b xs p e ha hc hk s m args below hf ((Spec.applies_iff_loose hf).mp happ).1 hP trivial
  exact ⟨k, o, h1, h2, h3, hQ⟩
theorem lw_frame {s t : State} {o : Outcome} {args : Array Value} (h : Framed s o t [] 600000 7290000) :
    Framed s o t (fieldLocs frame_1_writes args s ++ arrayLocs frame_1_arrays args s ++ staticLocs frame_1_statics s) 600000 7290000 := h
theorem lw_limb (L : Cond) (hL : ∀ (args : Array Value) (s t : State), L.after args s (.returned (some (.int 1))) t = true) :
    ArmFor flags0 classFile x code maxLocals ret World_1 tables_1 room_1 Calls_1 rest_1 Pre_1
      (fun tb e a s o t => postC L tb e a s o t ∧ Framed s o t (fieldLocs frame_1_writes a s ++ arrayLocs frame_1_arrays a s ++ staticLocs frame_1_statics s) 600000 7290000) := by
  intro l hflags _ _ p e ha hc hk s m args below hf hfit hheap happ hpre
  obtain ⟨k, o, h1, h2, h3, rfl, hF⟩ := lw_comes l hflags p e ha hc hk s m args below hf hfit hheap happ hpre
  exact ⟨k, _, h1, h2, h3, hL args s _, lw_frame hF⟩
theorem i_vc : Claimed_1_1 ∧ Claimed_1_2 := ⟨lw_limb limb_1_1 (fun args s t => by simp [limb_1_1, Cond.after, Cond.holds, Cond.value]), lw_limb limb_1_2 (fun args s t => Cond.after_iff.mpr (by
  first | (rw [show limb_1_2 = Cond.eq .result (.int 1) from rfl, Cond.eq_ints (x := 1) (y := 1) rfl rfl]; simp; done) | (simp [limb_1_2, Cond.value, Term.eval]; done)))⟩
end
