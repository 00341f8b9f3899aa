import PyProof.Rows.All
import Wide.All
import OpenK.AllK
import Wide.FinOn
import Lean
import PySem.Challenge.RW_mj0282_01
set_option maxRecDepth 1000000
set_option linter.all false
set_option genInjectivity false
set_option genSizeOf false
set_option Elab.async false
namespace Mine
open PySem PySem.W PySem.W.X PySem.Calls
theorem aK {A0 A1 A2:Prop}{G:Prop}(h:A0∧A1∧A2)(f:A0→A1→A2→G):G:=by
 obtain⟨h0,h1,h2⟩:=h
 exact f h0 h1 h2
theorem cg {A0 A1 A2 A3:Prop}{G:Prop}(h:A0∧A1∧A2∧A3)(f:A0→A1→A2→A3→G):G:=by
 obtain⟨h0,h1,h2,h3⟩:=h
 exact f h0 h1 h2 h3
theorem dm {A0 A1 A2 A3 A4:Prop}{G:Prop}(h:A0∧A1∧A2∧A3∧A4)(f:A0→A1→A2→A3→A4→G):G:=by
 obtain⟨h0,h1,h2,h3,h4⟩:=h
 exact f h0 h1 h2 h3 h4
theorem ji {A0 A1 A2 A3 A4 A5 A6:Prop}{G:Prop}(h:A0∧A1∧A2∧A3∧A4∧A5∧A6)(f:A0→A1→A2→A3→A4→A5→A6→G):G:=by
 obtain⟨h0,h1,h2,h3,h4,h5,h6⟩:=h
 exact f h0 h1 h2 h3 h4 h5 h6
theorem aL {α0:Sort _}{A0 A1:α0→Prop}{G:Prop}(h:∃x0,A0 x0∧A1 x0)(f:∀x0,A0 x0→A1 x0→G):G:=by
 obtain⟨x0,h0,h1⟩:=h
 exact f x0 h0 h1
theorem cj {α0:Sort _}{A0 A1 A2:α0→Prop}{G:Prop}(h:∃x0,A0 x0∧A1 x0∧A2 x0)(f:∀x0,A0 x0→A1 x0→A2 x0→G):G:=by
 obtain⟨x0,h0,h1,h2⟩:=h
 exact f x0 h0 h1 h2
theorem dh {α0:Sort _}{A0 A1 A2 A3:α0→Prop}{G:Prop}(h:∃x0,A0 x0∧A1 x0∧A2 x0∧A3 x0)(f:∀x0,A0 x0→A1 x0→A2 x0→A3 x0→G):G:=by
 obtain⟨x0,h0,h1,h2,h3⟩:=h
 exact f x0 h0 h1 h2 h3
theorem gB {α0:Sort _}{A0 A1 A2 A3 A4:α0→Prop}{G:Prop}(h:∃x0,A0 x0∧A1 x0∧A2 x0∧A3 x0∧A4 x0)(f:∀x0,A0 x0→A1 x0→A2 x0→A3 x0→A4 x0→G):G:=by
 obtain⟨x0,h0,h1,h2,h3,h4⟩:=h
 exact f x0 h0 h1 h2 h3 h4
theorem jf {α0:Sort _}{A0 A1 A2 A3 A4 A5:α0→Prop}{G:Prop}(h:∃x0,A0 x0∧A1 x0∧A2 x0∧A3 x0∧A4 x0∧A5 x0)(f:∀x0,A0 x0→A1 x0→A2 x0→A3 x0→A4 x0→A5 x0→G):G:=by
 obtain⟨x0,h0,h1,h2,h3,h4,h5⟩:=h
 exact f x0 h0 h1 h2 h3 h4 h5
theorem aJ {α0 α1:Sort _}{A0:α0→α1→Prop}{G:Prop}(h:∃x0 x1,A0 x0 x1)(f:∀x0 x1,A0 x0 x1→G):G:=by
 obtain⟨x0,x1,h0⟩:=h
 exact f x0 x1 h0
theorem b7 {α0 α1:Sort _}{A0 A1:α0→α1→Prop}{G:Prop}(h:∃x0 x1,A0 x0 x1∧A1 x0 x1)(f:∀x0 x1,A0 x0 x1→A1 x0 x1→G):G:=by
 obtain⟨x0,x1,h0,h1⟩:=h
 exact f x0 x1 h0 h1
theorem c7 {α0 α1:Sort _}{A0 A1 A2:α0→α1→Prop}{G:Prop}(h:∃x0 x1,A0 x0 x1∧A1 x0 x1∧A2 x0 x1)(f:∀x0 x1,A0 x0 x1→A1 x0 x1→A2 x0 x1→G):G:=by
 obtain⟨x0,x1,h0,h1,h2⟩:=h
 exact f x0 x1 h0 h1 h2
theorem je {α0 α1:Sort _}{A0 A1 A2 A3 A4:α0→α1→Prop}{G:Prop}(h:∃x0 x1,A0 x0 x1∧A1 x0 x1∧A2 x0 x1∧A3 x0 x1∧A4 x0 x1)(f:∀x0 x1,A0 x0 x1→A1 x0 x1→A2 x0 x1→A3 x0 x1→A4 x0 x1→G):G:=by
 obtain⟨x0,x1,h0,h1,h2,h3,h4⟩:=h
 exact f x0 x1 h0 h1 h2 h3 h4
theorem b8 {α0 α1 α2:Sort _}{A0:α0→α1→α2→Prop}{G:Prop}(h:∃x0 x1 x2,A0 x0 x1 x2)(f:∀x0 x1 x2,A0 x0 x1 x2→G):G:=by
 obtain⟨x0,x1,x2,h0⟩:=h
 exact f x0 x1 x2 h0
theorem du {α0 α1 α2:Sort _}{A0 A1:α0→α1→α2→Prop}{G:Prop}(h:∃x0 x1 x2,A0 x0 x1 x2∧A1 x0 x1 x2)(f:∀x0 x1 x2,A0 x0 x1 x2→A1 x0 x1 x2→G):G:=by
 obtain⟨x0,x1,x2,h0,h1⟩:=h
 exact f x0 x1 x2 h0 h1
theorem gw {α0 α1 α2:Sort _}{A0 A1 A2:α0→α1→α2→Prop}{G:Prop}(h:∃x0 x1 x2,A0 x0 x1 x2∧A1 x0 x1 x2∧A2 x0 x1 x2)(f:∀x0 x1 x2,A0 x0 x1 x2→A1 x0 x1 x2→A2 x0 x1 x2→G):G:=by
 obtain⟨x0,x1,x2,h0,h1,h2⟩:=h
 exact f x0 x1 x2 h0 h1 h2
theorem jd {α0 α1 α2:Sort _}{A0 A1 A2 A3:α0→α1→α2→Prop}{G:Prop}(h:∃x0 x1 x2,A0 x0 x1 x2∧A1 x0 x1 x2∧A2 x0 x1 x2∧A3 x0 x1 x2)(f:∀x0 x1 x2,A0 x0 x1 x2→A1 x0 x1 x2→A2 x0 x1 x2→A3 x0 x1 x2→G):G:=by
 obtain⟨x0,x1,x2,h0,h1,h2,h3⟩:=h
 exact f x0 x1 x2 h0 h1 h2 h3
theorem nM {α0 α1 α2:Sort _}{A0 A1 A2 A3 A4:α0→α1→α2→Prop}{G:Prop}(h:∃x0 x1 x2,A0 x0 x1 x2∧A1 x0 x1 x2∧A2 x0 x1 x2∧A3 x0 x1 x2∧A4 x0 x1 x2)(f:∀x0 x1 x2,A0 x0 x1 x2→A1 x0 x1 x2→A2 x0 x1 x2→A3 x0 x1 x2→A4 x0 x1 x2→G):G:=by
 obtain⟨x0,x1,x2,h0,h1,h2,h3,h4⟩:=h
 exact f x0 x1 x2 h0 h1 h2 h3 h4
theorem mZ {α0 α1 α2 α3:Sort _}{A0 A1 A2 A3:α0→α1→α2→α3→Prop}{G:Prop}(h:∃x0 x1 x2 x3,A0 x0 x1 x2 x3∧A1 x0 x1 x2 x3∧A2 x0 x1 x2 x3∧A3 x0 x1 x2 x3)(f:∀x0 x1 x2 x3,A0 x0 x1 x2 x3→A1 x0 x1 x2 x3→A2 x0 x1 x2 x3→A3 x0 x1 x2 x3→G):G:=by
 obtain⟨x0,x1,x2,x3,h0,h1,h2,h3⟩:=h
 exact f x0 x1 x2 x3 h0 h1 h2 h3
theorem gr {α0 α1 α2 α3 α4:Sort _}{A0:α0→α1→α2→α3→α4→Prop}{G:Prop}(h:∃x0 x1 x2 x3 x4,A0 x0 x1 x2 x3 x4)(f:∀x0 x1 x2 x3 x4,A0 x0 x1 x2 x3 x4→G):G:=by
 obtain⟨x0,x1,x2,x3,x4,h0⟩:=h
 exact f x0 x1 x2 x3 x4 h0
theorem ni {α0 α1 α2 α3 α4:Sort _}{A0 A1 A2:α0→α1→α2→α3→α4→Prop}{G:Prop}(h:∃x0 x1 x2 x3 x4,A0 x0 x1 x2 x3 x4∧A1 x0 x1 x2 x3 x4∧A2 x0 x1 x2 x3 x4)(f:∀x0 x1 x2 x3 x4,A0 x0 x1 x2 x3 x4→A1 x0 x1 x2 x3 x4→A2 x0 x1 x2 x3 x4→G):G:=by
 obtain⟨x0,x1,x2,x3,x4,h0,h1,h2⟩:=h
 exact f x0 x1 x2 x3 x4 h0 h1 h2
theorem wW {α0 α1 α2 α3 α4:Sort _}{A0 A1 A2 A3:α0→α1→α2→α3→α4→Prop}{G:Prop}(h:∃x0 x1 x2 x3 x4,A0 x0 x1 x2 x3 x4∧A1 x0 x1 x2 x3 x4∧A2 x0 x1 x2 x3 x4∧A3 x0 x1 x2 x3 x4)(f:∀x0 x1 x2 x3 x4,A0 x0 x1 x2 x3 x4→A1 x0 x1 x2 x3 x4→A2 x0 x1 x2 x3 x4→A3 x0 x1 x2 x3 x4→G):G:=by
 obtain⟨x0,x1,x2,x3,x4,h0,h1,h2,h3⟩:=h
 exact f x0 x1 x2 x3 x4 h0 h1 h2 h3
theorem sV {α0 α1 α2 α3 α4 α5:Sort _}{A0 A1 A2 A3:α0→α1→α2→α3→α4→α5→Prop}{G:Prop}(h:∃x0 x1 x2 x3 x4 x5,A0 x0 x1 x2 x3 x4 x5∧A1 x0 x1 x2 x3 x4 x5∧A2 x0 x1 x2 x3 x4 x5∧A3 x0 x1 x2 x3 x4 x5)(f:∀x0 x1 x2 x3 x4 x5,A0 x0 x1 x2 x3 x4 x5→A1 x0 x1 x2 x3 x4 x5→A2 x0 x1 x2 x3 x4 x5→A3 x0 x1 x2 x3 x4 x5→G):G:=by
 obtain⟨x0,x1,x2,x3,x4,x5,h0,h1,h2,h3⟩:=h
 exact f x0 x1 x2 x3 x4 x5 h0 h1 h2 h3
theorem Ua {α0 α1 α2 α3 α4 α5:Sort _}{A0 A1 A2 A3 A4:α0→α1→α2→α3→α4→α5→Prop}{G:Prop}(h:∃x0 x1 x2 x3 x4 x5,A0 x0 x1 x2 x3 x4 x5∧A1 x0 x1 x2 x3 x4 x5∧A2 x0 x1 x2 x3 x4 x5∧A3 x0 x1 x2 x3 x4 x5∧A4 x0 x1 x2 x3 x4 x5)(f:∀x0 x1 x2 x3 x4 x5,A0 x0 x1 x2 x3 x4 x5→A1 x0 x1 x2 x3 x4 x5→A2 x0 x1 x2 x3 x4 x5→A3 x0 x1 x2 x3 x4 x5→A4 x0 x1 x2 x3 x4 x5→G):G:=by
 obtain⟨x0,x1,x2,x3,x4,x5,h0,h1,h2,h3,h4⟩:=h
 exact f x0 x1 x2 x3 x4 x5 h0 h1 h2 h3 h4
theorem xW {α0 α1 α2 α3 α4 α5:Sort _}{A0 A1 A2 A3 A4 A5:α0→α1→α2→α3→α4→α5→Prop}{G:Prop}(h:∃x0 x1 x2 x3 x4 x5,A0 x0 x1 x2 x3 x4 x5∧A1 x0 x1 x2 x3 x4 x5∧A2 x0 x1 x2 x3 x4 x5∧A3 x0 x1 x2 x3 x4 x5∧A4 x0 x1 x2 x3 x4 x5∧A5 x0 x1 x2 x3 x4 x5)(f:∀x0 x1 x2 x3 x4 x5,A0 x0 x1 x2 x3 x4 x5→A1 x0 x1 x2 x3 x4 x5→A2 x0 x1 x2 x3 x4 x5→A3 x0 x1 x2 x3 x4 x5→A4 x0 x1 x2 x3 x4 x5→A5 x0 x1 x2 x3 x4 x5→G):G:=by
 obtain⟨x0,x1,x2,x3,x4,x5,h0,h1,h2,h3,h4,h5⟩:=h
 exact f x0 x1 x2 x3 x4 x5 h0 h1 h2 h3 h4 h5
theorem OD {α0 α1 α2 α3 α4 α5:Sort _}{A0 A1 A2 A3 A4 A5 A6 A7:α0→α1→α2→α3→α4→α5→Prop}{G:Prop}(h:∃x0 x1 x2 x3 x4 x5,A0 x0 x1 x2 x3 x4 x5∧A1 x0 x1 x2 x3 x4 x5∧A2 x0 x1 x2 x3 x4 x5∧A3 x0 x1 x2 x3 x4 x5∧A4 x0 x1 x2 x3 x4 x5∧A5 x0 x1 x2 x3 x4 x5∧A6 x0 x1 x2 x3 x4 x5∧A7 x0 x1 x2 x3 x4 x5)(f:∀x0 x1 x2 x3 x4 x5,A0 x0 x1 x2 x3 x4 x5→A1 x0 x1 x2 x3 x4 x5→A2 x0 x1 x2 x3 x4 x5→A3 x0 x1 x2 x3 x4 x5→A4 x0 x1 x2 x3 x4 x5→A5 x0 x1 x2 x3 x4 x5→A6 x0 x1 x2 x3 x4 x5→A7 x0 x1 x2 x3 x4 x5→G):G:=by
 obtain⟨x0,x1,x2,x3,x4,x5,h0,h1,h2,h3,h4,h5,h6,h7⟩:=h
 exact f x0 x1 x2 x3 x4 x5 h0 h1 h2 h3 h4 h5 h6 h7
theorem yo {α0 α1 α2 α3 α4 α5 α6:Sort _}{A0 A1 A2 A3 A4:α0→α1→α2→α3→α4→α5→α6→Prop}{G:Prop}(h:∃x0 x1 x2 x3 x4 x5 x6,A0 x0 x1 x2 x3 x4 x5 x6∧A1 x0 x1 x2 x3 x4 x5 x6∧A2 x0 x1 x2 x3 x4 x5 x6∧A3 x0 x1 x2 x3 x4 x5 x6∧A4 x0 x1 x2 x3 x4 x5 x6)(f:∀x0 x1 x2 x3 x4 x5 x6,A0 x0 x1 x2 x3 x4 x5 x6→A1 x0 x1 x2 x3 x4 x5 x6→A2 x0 x1 x2 x3 x4 x5 x6→A3 x0 x1 x2 x3 x4 x5 x6→A4 x0 x1 x2 x3 x4 x5 x6→G):G:=by
 obtain⟨x0,x1,x2,x3,x4,x5,x6,h0,h1,h2,h3,h4⟩:=h
 exact f x0 x1 x2 x3 x4 x5 x6 h0 h1 h2 h3 h4
theorem w7 {α0 α1 α2 α3 α4 α5 α6 α7:Sort _}{A0:α0→α1→α2→α3→α4→α5→α6→α7→Prop}{G:Prop}(h:∃x0 x1 x2 x3 x4 x5 x6 x7,A0 x0 x1 x2 x3 x4 x5 x6 x7)(f:∀x0 x1 x2 x3 x4 x5 x6 x7,A0 x0 x1 x2 x3 x4 x5 x6 x7→G):G:=by
 obtain⟨x0,x1,x2,x3,x4,x5,x6,x7,h0⟩:=h
 exact f x0 x1 x2 x3 x4 x5 x6 x7 h0
theorem xM {α0 α1 α2 α3 α4 α5 α6 α7:Sort _}{A0 A1 A2 A3:α0→α1→α2→α3→α4→α5→α6→α7→Prop}{G:Prop}(h:∃x0 x1 x2 x3 x4 x5 x6 x7,A0 x0 x1 x2 x3 x4 x5 x6 x7∧A1 x0 x1 x2 x3 x4 x5 x6 x7∧A2 x0 x1 x2 x3 x4 x5 x6 x7∧A3 x0 x1 x2 x3 x4 x5 x6 x7)(f:∀x0 x1 x2 x3 x4 x5 x6 x7,A0 x0 x1 x2 x3 x4 x5 x6 x7→A1 x0 x1 x2 x3 x4 x5 x6 x7→A2 x0 x1 x2 x3 x4 x5 x6 x7→A3 x0 x1 x2 x3 x4 x5 x6 x7→G):G:=by
 obtain⟨x0,x1,x2,x3,x4,x5,x6,x7,h0,h1,h2,h3⟩:=h
 exact f x0 x1 x2 x3 x4 x5 x6 x7 h0 h1 h2 h3
theorem J7 {α0 α1 α2 α3 α4 α5 α6 α7:Sort _}{A0 A1 A2 A3 A4 A5 A6 A7:α0→α1→α2→α3→α4→α5→α6→α7→Prop}{G:Prop}(h:∃x0 x1 x2 x3 x4 x5 x6 x7,A0 x0 x1 x2 x3 x4 x5 x6 x7∧A1 x0 x1 x2 x3 x4 x5 x6 x7∧A2 x0 x1 x2 x3 x4 x5 x6 x7∧A3 x0 x1 x2 x3 x4 x5 x6 x7∧A4 x0 x1 x2 x3 x4 x5 x6 x7∧A5 x0 x1 x2 x3 x4 x5 x6 x7∧A6 x0 x1 x2 x3 x4 x5 x6 x7∧A7 x0 x1 x2 x3 x4 x5 x6 x7)(f:∀x0 x1 x2 x3 x4 x5 x6 x7,A0 x0 x1 x2 x3 x4 x5 x6 x7→A1 x0 x1 x2 x3 x4 x5 x6 x7→A2 x0 x1 x2 x3 x4 x5 x6 x7→A3 x0 x1 x2 x3 x4 x5 x6 x7→A4 x0 x1 x2 x3 x4 x5 x6 x7→A5 x0 x1 x2 x3 x4 x5 x6 x7→A6 x0 x1 x2 x3 x4 x5 x6 x7→A7 x0 x1 x2 x3 x4 x5 x6 x7→G):G:=by
 obtain⟨x0,x1,x2,x3,x4,x5,x6,x7,h0,h1,h2,h3,h4,h5,h6,h7⟩:=h
 exact f x0 x1 x2 x3 x4 x5 x6 x7 h0 h1 h2 h3 h4 h5 h6 h7
theorem V3 {α0 α1 α2 α3 α4 α5 α6 α7 α8:Sort _}{A0 A1 A2 A3 A4 A5:α0→α1→α2→α3→α4→α5→α6→α7→α8→Prop}{G:Prop}(h:∃x0 x1 x2 x3 x4 x5 x6 x7 x8,A0 x0 x1 x2 x3 x4 x5 x6 x7 x8∧A1 x0 x1 x2 x3 x4 x5 x6 x7 x8∧A2 x0 x1 x2 x3 x4 x5 x6 x7 x8∧A3 x0 x1 x2 x3 x4 x5 x6 x7 x8∧A4 x0 x1 x2 x3 x4 x5 x6 x7 x8∧A5 x0 x1 x2 x3 x4 x5 x6 x7 x8)(f:∀x0 x1 x2 x3 x4 x5 x6 x7 x8,A0 x0 x1 x2 x3 x4 x5 x6 x7 x8→A1 x0 x1 x2 x3 x4 x5 x6 x7 x8→A2 x0 x1 x2 x3 x4 x5 x6 x7 x8→A3 x0 x1 x2 x3 x4 x5 x6 x7 x8→A4 x0 x1 x2 x3 x4 x5 x6 x7 x8→A5 x0 x1 x2 x3 x4 x5 x6 x7 x8→G):G:=by
 obtain⟨x0,x1,x2,x3,x4,x5,x6,x7,x8,h0,h1,h2,h3,h4,h5⟩:=h
 exact f x0 x1 x2 x3 x4 x5 x6 x7 x8 h0 h1 h2 h3 h4 h5
theorem JN {α0 α1 α2 α3 α4 α5 α6 α7 α8:Sort _}{A0 A1 A2 A3 A4 A5 A6:α0→α1→α2→α3→α4→α5→α6→α7→α8→Prop}{G:Prop}(h:∃x0 x1 x2 x3 x4 x5 x6 x7 x8,A0 x0 x1 x2 x3 x4 x5 x6 x7 x8∧A1 x0 x1 x2 x3 x4 x5 x6 x7 x8∧A2 x0 x1 x2 x3 x4 x5 x6 x7 x8∧A3 x0 x1 x2 x3 x4 x5 x6 x7 x8∧A4 x0 x1 x2 x3 x4 x5 x6 x7 x8∧A5 x0 x1 x2 x3 x4 x5 x6 x7 x8∧A6 x0 x1 x2 x3 x4 x5 x6 x7 x8)(f:∀x0 x1 x2 x3 x4 x5 x6 x7 x8,A0 x0 x1 x2 x3 x4 x5 x6 x7 x8→A1 x0 x1 x2 x3 x4 x5 x6 x7 x8→A2 x0 x1 x2 x3 x4 x5 x6 x7 x8→A3 x0 x1 x2 x3 x4 x5 x6 x7 x8→A4 x0 x1 x2 x3 x4 x5 x6 x7 x8→A5 x0 x1 x2 x3 x4 x5 x6 x7 x8→A6 x0 x1 x2 x3 x4 x5 x6 x7 x8→G):G:=by
 obtain⟨x0,x1,x2,x3,x4,x5,x6,x7,x8,h0,h1,h2,h3,h4,h5,h6⟩:=h
 exact f x0 x1 x2 x3 x4 x5 x6 x7 x8 h0 h1 h2 h3 h4 h5 h6
noncomputable def hc (a n b:Nat):Nat:=a<<<n|||b
noncomputable def M3:Nat:=0x20003030000000300000000
noncomputable def hb0:Nat:=(hc M3 16 769)
noncomputable def hb1:Nat:=0x3030300040000000400040000040000000004
noncomputable def Vb:Nat:=0x101010101010101000000000000000000000100000101020000030303030000000000000002000002020000020000000002
noncomputable def hb2:Nat:=(hc (hc 0x4010004010004040404040000000000000000000004000004040500000606060600000000000000050000050500000500000000050500000000040000000404000000000100 400 Vb) 80 0x2000000000100000001)
noncomputable def hb3:Nat:=(hc M3 184 0x306000006060000000000000000000000000000000300)
noncomputable def hb4:Nat:=0x10001010101000405000000000500000000000000050000000000000005
noncomputable def Xq:Nat:=0x101010001010101000100010a000a0a010002010a000a0a000003030301000100010003020303090909010700c900c9c90101010101060404ca0404000400040404ca0404000400040404ca0404000400040400ca00cacaca010001000101010001000000020201010101000000
noncomputable def Jm:Nat:=0x1000202000000000000000200000000000000
noncomputable def Yv:Nat:=(hc (hc (hc (hc (hc (hc 0x100030303030100 152 Jm) 56 0x20300000303) 152 Jm) 24 515) 152 Jm) 680 0x20500000505000000000102000000000200000000000000020000000000000002030303040000000004000004040400000000000004000000000000040000000004040404000000000300030000030303030000)
noncomputable def yE:Nat:=0x2020200030000000300030000030000000003
noncomputable def LC:Nat:=0x90909000a000000000000000a000a00000a0000000000000000
noncomputable def Qg:Nat:=0xa000000000000000a00000000000000
noncomputable def hb8:Nat:=(hc (hc (hc (hc (hc (hc (hc (hc (hc (hc (hc (hc 0x505050505 208 LC) 120 0xa0b0c00000c00000c0c0c0c09000a) 128 Qg) 160 0xa0c00000c0c0c0c000000000b090a00000000) 128 Qg) 24 0xa0b0b) 208 LC) 16 2571) 208 LC) 16 2571) 208 LC) 616 0xa0b0b000000000b00000b00000b00000b0b000000000b00000b00000b0b0b0b0b0b00000000000000000a000a0000000000000000000000000000000000000000000000000000000000000000)
noncomputable def hb9:Nat:=0x101000101010100010001010101090707c80707000700070707c80707000700070707c80707000700070700c800c8c8c80100060606010400030003030200020201000100000101000000
noncomputable def v5:Nat:=0x1010100010001c800c8c8c801010000010101030003
noncomputable def TX:Nat:=0x8000000000008000000080000080808080808000000000000000000000000000000000000000000000000000000000000000000050000000000000500000000050505050505050505050000000000000000040004000000000000000000000000000000000000000000000000000000000000000000020200020000020202020202
noncomputable def yM:Nat:=0x10002020000000200000000
noncomputable def Qm:Nat:=(hc (hc (hc (hc 1285 96 yM) 192 0x20501010100020000000200020000020000000002050505) 96 yM) 96 0x20501050505050000050500)
noncomputable def pH:Nat:=0x30004040000000400000000
noncomputable def M6:Nat:=0x1010101010104000404010001000100
noncomputable def Qu:Nat:=(hc (hc 0x10800080801c800c8c8c801010101c90005c901c800c8c8c8 128 M6) 8 0)
noncomputable def Nr:Nat:=0x101010101000100010101010101
noncomputable def Mv:Nat:=0x101010101010001010101010101
noncomputable def VG:Nat:=(hc (hc (hc Nr 56 0x10e000c000c0c) 112 Mv) 320 0x10b0909080909000900090909080909000900090909080909000900090909080909000900090900)
noncomputable def Jp:Nat:=0x1010202010101010001010100010101010101010300
noncomputable def V6:Nat:=0x9010700060006060001c900c9c9c901c800c8c8c8010103030303010104000001c900c9c9c901c800c8c8c8010104040404010300030303000001010101
noncomputable def UG:Nat:=0xd010b000a000a0a01c900c9c9c90101040004070401ca00ca05ca01c900c9c9c90101c800c8c8c800000101c800c8c8c800
noncomputable def S5:Nat:=0x41100001111000000000304000000000400000004000000041000001010000000000000000400010f000f0f010000000200
noncomputable def Sh:Nat:=0x10700070701c800c8c8c801010101c90004c901c800c8c8c801
noncomputable def Wx:Nat:=0x1000001cb00cbcbcb01010101000100010c000c0e0c0f0f0f010d00cb00cbcb0101010101010b000b0b
noncomputable def V9:Nat:=(hc (hc 0x10100 96 M3) 216 0x30700000707000000000000000000000000000000030000000003)
noncomputable def Rf:Nat:=0x1010101000100010001000001000100000000010100
noncomputable def Ug:Nat:=0x303020303000300030400040404030302030300030003040003000200020200000100
noncomputable def T4:Nat:=0x1000001cb00cbcbcb01010101000100010b000b0d0b0e0e0e010c00cb00cbcb010101
noncomputable def V5:Nat:=0x20301010100020000000000000002000200000200000000000000000203
noncomputable def Ja:Nat:=0x10200010202020201010001
noncomputable def hq0:Nat:=0x7466746a62732e7566682e6d626a64667174
noncomputable def hq1:Nat:=(hc (hc (hc (hc (hc (hc 0x1000303 152 Jm) 8 0) 240 V5) 88 0x301000300000303000003) 1280 Yv) 16 0)
noncomputable def hq2:Nat:=(hc (hc (hc (hc (hc (hc (hc (hc (hc (hc yE 40 0x101010000) 112 hb0) 112 hb0) 16 0) 112 hb0) 240 hb4) 112 hb0) 24 0) 280 hb3) 48 0x30100)
noncomputable def Zd:Nat:=(hc (hc (hc (hc (hc (hc (hc (hc (hc (hc (hc (hc (hc (hc (hc (hc (hc (hc (hc (hc 1 112 hb0) 8 1) 112 hb0) 16 0) 112 hb0) 16 256) 112 hb0) 40 0x101010000) 112 hb0) 112 hb0) 16 0) 112 hb0) 152 yE) 16 0) 112 hb0) 240 hb4) 112 hb0) 24 0) 280 hb3) 48 0x30100)
noncomputable def Zh:Nat:=(hc (hc (hc (hc (hc (hc (hc (hc (hc (hc (hc (hc (hc (hc (hc (hc (hc 1 112 hb0) 8 1) 112 hb0) 16 0) 112 hb0) 16 256) 112 hb0) 40 0x101010000) 112 hb0) 112 hb0) 16 0) 112 hb0) 240 hb4) 112 hb0) 24 0) 280 hb3) 48 0x30100)
noncomputable def Y9:Nat:=(hc (hc (hc (hc (hc (hc (hc (hc (hc (hc (hc (hc (hc (hc (hc (hc (hc (hc (hc (hc (hc (hc (hc (hc (hc yE 16 257) 112 hb0) 16 256) 112 hb0) 336 V9) 32 0x1010100) 112 hb0) 24 0x10100) 112 hb0) 8 1) 112 hb0) 16 256) 112 hb0) 24 0x10100) 112 hb0) 40 0x101010000) 112 hb0) 112 hb0) 16 0) 112 hb0) 240 hb4) 112 hb0) 24 0) 280 hb3) 48 0x30100)
noncomputable def YX:Nat:=(hc (hc (hc (hc (hc (hc (hc (hc (hc (hc (hc (hc (hc (hc (hc (hc (hc (hc (hc (hc (hc (hc yE 8 1) 152 yE) 32 0x1010100) 112 hb0) 24 0x10100) 112 hb0) 8 1) 112 hb0) 16 256) 112 hb0) 24 0x10100) 112 hb0) 40 0x101010000) 112 hb0) 112 hb0) 16 0) 112 hb0) 240 hb4) 112 hb0) 24 0) 280 hb3) 48 0x30100)
noncomputable def YT:Nat:=(hc (hc (hc (hc (hc (hc (hc (hc (hc (hc (hc (hc (hc (hc (hc (hc (hc (hc (hc (hc (hc (hc (hc (hc (hc (hc (hc yE 8 1) 152 yE) 16 257) 112 hb0) 16 256) 112 hb0) 336 V9) 32 0x1010100) 112 hb0) 24 0x10100) 112 hb0) 8 1) 112 hb0) 16 256) 112 hb0) 24 0x10100) 112 hb0) 40 0x101010000) 112 hb0) 112 hb0) 16 0) 112 hb0) 240 hb4) 112 hb0) 24 0) 280 hb3) 48 0x30100)
noncomputable def YL:Nat:=(hc (hc (hc (hc (hc (hc (hc (hc (hc (hc (hc (hc (hc (hc (hc (hc (hc (hc (hc (hc (hc (hc (hc (hc yE 24 0x10001) 112 hb0) 16 256) 112 hb0) 8 1) 112 hb0) 16 256) 112 hb0) 56 0x1010101010100) 112 hb0) 112 hb0) 16 256) 112 hb0) 112 hb0) 16 0) 112 hb0) 152 yE) 16 0) 112 hb0) 240 hb4) 112 hb0) 24 0) 280 hb3) 48 0x30100)
noncomputable def Za:Nat:=(hc (hc (hc (hc (hc (hc (hc (hc (hc (hc (hc (hc (hc (hc (hc (hc (hc (hc (hc (hc (hc yE 24 0x10001) 112 hb0) 16 256) 112 hb0) 8 1) 112 hb0) 16 256) 112 hb0) 56 0x1010101010100) 112 hb0) 112 hb0) 16 256) 112 hb0) 112 hb0) 16 0) 112 hb0) 240 hb4) 112 hb0) 24 0) 280 hb3) 48 0x30100)
noncomputable def Wz:Nat:=(hc (hc (hc (hc (hc (hc (hc (hc (hc (hc (hc (hc (hc (hc (hc (hc (hc (hc (hc (hc (hc (hc (hc (hc (hc (hc (hc (hc (hc (hc (hc (hc (hc (hc (hc (hc yE 24 0x10001) 112 hb0) 16 256) 112 hb0) 24 0x10100) 112 hb0) 8 1) 112 hb0) 16 256) 112 hb0) 8 1) 112 hb0) 16 0) 112 hb0) 16 256) 112 hb0) 24 0x10100) 112 hb0) 64 0x101010107000707) 112 hb0) 16 0) 112 hb0) 112 hb0) 16 0) 112 hb0) 112 hb0) 16 0) 112 hb0) 112 hb0) 16 0) 112 hb0) 240 hb4) 112 hb0) 24 0) 280 hb3) 48 0x30100)
noncomputable def T5:Nat:=(hc (hc (hc (hc (hc (hc (hc (hc (hc (hc (hc (hc (hc (hc (hc (hc (hc (hc (hc (hc (hc (hc (hc (hc (hc (hc (hc (hc (hc (hc (hc (hc (hc (hc (hc (hc (hc (hc (hc (hc (hc (hc yE 24 0x10001) 112 hb0) 16 256) 96 M3) 232 0x308000008080000000000000000000000000000000300000000030101) 112 hb0) 16 256) 112 hb0) 24 0x10100) 112 hb0) 24 0x10100) 112 hb0) 8 1) 112 hb0) 16 256) 112 hb0) 8 1) 112 hb0) 16 0) 112 hb0) 16 256) 112 hb0) 24 0x10100) 112 hb0) 64 0x101010107000707) 112 hb0) 16 0) 112 hb0) 112 hb0) 16 0) 112 hb0) 112 hb0) 16 0) 112 hb0) 112 hb0) 16 0) 112 hb0) 240 hb4) 112 hb0) 24 0) 280 hb3) 48 0x30100)
noncomputable def Tn:Nat:=(hc (hc (hc (hc 0x50000 96 yM) 8 2) 496 Qm) 16 0)
noncomputable def W7:Nat:=(hc (hc (hc (hc 0x50000 96 yM) 32 0x2050100) 496 Qm) 16 0)
noncomputable def Vq:Nat:=(hc (hc (hc (hc (hc (hc (hc (hc (hc (hc 0x700000000 96 yM) 64 0x207070707080000) 96 yM) 48 0x20800000000) 96 yM) 32 0x2080800) 96 yM) 240 0x20808080100010200000000020000000200000002080500050005000505) 96 yM) 264 0x20800000808000000000102000000000200000002000000020700000707000000)
noncomputable def T8:Nat:=0x103000101c80004c80101010102000202
noncomputable def WF:Nat:=0x1030001c80004c80101010102000202
noncomputable def W0:Nat:=0x103000100c8010001c801010102000200
noncomputable def WK:Nat:=0x103000100010100c80100c801010102000200
noncomputable def M5:Nat:=0x1030001c900c9c9c901c801010102000200
noncomputable def Uy:Nat:=(hc (hc (hc Ja 16 257) 176 v5) 8 2)
noncomputable def Ww:Nat:=(hc (hc (hc (hc 0x102000102020202010100 128 M6) 8 0) 176 v5) 8 2)
noncomputable def Tz:Nat:=(hc (hc 0x10101000101c90004c901c800c8c8c801010101 176 v5) 8 2)
noncomputable def Vs:Nat:=(hc (hc (hc Sh 24 0x10101) 176 v5) 8 2)
noncomputable def Tj:Nat:=(hc (hc (hc (hc Ja 208 Sh) 24 0x10101) 176 v5) 8 2)
noncomputable def Wj:Nat:=(hc (hc (hc (hc 0x404040603030203030003000304000000 280 Ug) 24 0) 176 Rf) 16 0)
noncomputable def SQ:Nat:=(hc 0x101000100010b000b0d0b0e010c00c900c9c90101010101010a000a0a00000a 600 hb9)
noncomputable def Wg:Nat:=(hc Ja 112 0x101000101010101010103000300)
noncomputable def Uz:Nat:=(hc (hc 0x102000102020202 176 Jp) 16 768)
noncomputable def Vu:Nat:=(hc (hc 0x10202 176 Jp) 16 768)
noncomputable def Vm:Nat:=(hc (hc 0x101010800080c080d0d 400 UG) 72 0x101010102000200)
noncomputable def Wm:Nat:=(hc (hc 0x101010800080c08 400 UG) 72 0x101010102000200)
noncomputable def Ur:Nat:=0x10107000600060601c800c8c8c8010404040101010200c900c9c901c800c8c8c80100000101000000
noncomputable def ul:Nat:=0x10400000500050005050501000104040404010300030303000001000001000101010102000200
noncomputable def U3:Nat:=0x103000303030301000001000101010102000200
noncomputable def SX:Nat:=0x9090901070003000303010106000500050501c800c8c8c801010100000101000000
noncomputable def VB:Nat:=(hc (hc 0x103000909 496 V6) 32 0x2000200)
noncomputable def Tf:Nat:=(hc (hc 0x10300 496 V6) 32 0x2000200)
noncomputable def Tv:Nat:=0x10001010101090707cc0707000700070707cc0707000700070707cc0707000700070700cc00cccccc01000201010001010100010100010101000100060606010400ca00caca010001000101010001030003030301000100010000020201000100010001000001010100010002000101000000
noncomputable def V0:Nat:=0x100010001010001000105000805090909010700c800c8c801060606010400c800c8c801010300c80301
section
noncomputable abbrev O3:Program:=PySem.Challenge.rw_mj0282_01.prog
noncomputable def KJ (st:SharedT→Thread→Option (SharedT×Thread))(ok:Thread→Bool):Nat→SharedT→Thread→Option (SharedT×Thread)
 |0,s,t=>some (s,t)
 |n+1,s,t=>match ok t with
  |false=>none
  |true=>match st s t with
   |some r=>KJ st ok n r.1 r.2
   |none=>none
noncomputable def Vx (t:Thread):Bool:=match t.atExitBegin with
 |none=>true
 |some _=>false
noncomputable def endI (t:Thread):Bool:=match t.atExitBegin with
 |some []=>true
 |_=>false
noncomputable def CN (n₀:Nat)(ann:Option Value)(t:Thread):Bool:=match through t with
 |true=>false
 |false=>stepOk n₀ ann t
noncomputable def S7:List Obj→Nat→BT→Option BT
 |[],_,t=>some t
 |o::l,n,t=>match ((t.ins n o).get n).isSome with
  |true=>S7 l (n+1) (t.ins n o)
  |false=>none
section
variable {tb:String→Option Builtin} {p:Program} {w:World}
theorem Ew:∀{n:Nat} {s s':SharedT} {t t':Thread},KJ (stepT (denote tb) p w) Vx n s t=some (s',t')→endI t'=true→importEnds tb p w (n+1) s.abs t=some s'.abs
 |0,s,s',t,t',h,he=>by
  obtain⟨rfl,rfl⟩:s=s'∧t=t':=by simpa [KJ] using h
  unfold importEnds
  unfold endI at he
  split at he
  ·rename_i q;rw[q]
  ·cases he
 |n+1,s,s',t,t',h,he=>by
  unfold KJ at h
  unfold importEnds
  cases hk:Vx t with
  |false=>rw[hk] at h;cases h
  |true=>
   rw[hk] at h
   have ha:t.atExitBegin=none:=by
    unfold Vx at hk
    split at hk
    ·assumption
    ·cases hk
   rw[ha]
   cases hs:stepT (denote tb) p w s t with
   |none=>rw[hs] at h;cases h
   |some r=>rw[hs] at h;dsimp only;rw[stepT_spec (t':=r.2) (s':=r.1) hs];exact Ew h he
theorem Fy {n₀:Nat}{ann:Option Value}:∀{n:Nat} {s s':SharedT} {t t':Thread},KJ (stepT (denote tb) p w) (CN n₀ ann) n s t=some (s',t')→through t'=true→topRun tb p w n₀ ann (n+1) s.abs t=some s'.abs
 |0,s,s',t,t',h,he=>by
  obtain⟨rfl,rfl⟩:s=s'∧t=t':=by simpa [KJ] using h
  unfold topRun
  rw[he]
 |n+1,s,s',t,t',h,he=>by
  unfold KJ at h
  unfold topRun
  cases hk:CN n₀ ann t with
  |false=>rw[hk] at h;cases h
  |true=>
   rw[hk] at h
   unfold CN at hk
   cases ht:through t with
   |true=>rw[ht] at hk;cases hk
   |false=>
    rw[ht] at hk
    have hk':stepOk n₀ ann t=true:=hk
    rw[hk']
    cases hs:stepT (denote tb) p w s t with
    |none=>rw[hs] at h;cases h
    |some r=>rw[hs] at h;dsimp only;rw[stepT_spec (t':=r.2) (s':=r.1) hs];exact Fy h he
end
theorem Kq {life:Life}:∀{l:List Obj} {n:Nat} {t t':BT},S7 l n t=some t'→absHeap t' (n+l.length) life=⟨(absHeap t n life).objs++l.toArray,life⟩
 |[],n,t,t',h=>by
  cases h
  show absHeap t (n+0) life=_
  simp[absHeap]
 |o::l,n,t,t',h=>by
  unfold S7 at h
  cases hk:((t.ins n o).get n).isSome with
  |false=>rw[hk] at h;cases h
  |true=>
   rw[hk] at h
   have h2:=Kq (life:=life) h
   have h3:=absHeap_ins (life:=life) hk
   rw[h3] at h2
   have e:n+(o::l).length=n+1+l.length:=by rw[List.length_cons];lia
   rw[e,h2]
   show(⟨((absHeap t n life).objs.push o)++l.toArray,life⟩:Heap)=_
   simp
noncomputable def K7 (st:SharedT→Thread→Option (SharedT×Thread))(fence:Shared→Option Shared)(n:Nat)(s:SharedT)(t:Thread):Option (Shared×BT):=
 match KJ st Vx n s t with
 |some r=>match endI r.2 with
  |true=>match fence r.1.abs with
   |some s'=>match S7 s'.heap.objs.toList 0 .nil with
    |some T=>some (s',T)
    |none=>none
   |none=>none
  |false=>none
 |none=>none
end
section
set_option cbv.maxSteps 100000000
noncomputable def zE:Program:=by
 refine(?f:∀q:Program,O3=q→Program) ?q ?h
 case f=>exact fun q _=>q
 case h=>conv=>lhs;cbv
theorem Mw:O3=zE:=by kernel_rfl
noncomputable def nm (l:List Nat):Str:=⟨⟨l⟩⟩
noncomputable def kE (P:Params)(l:List Nat)(t:Nat)(v:Value):DictEntry:=⟨PyData.keyHash P (nm l),.str (nm l) t,v⟩
noncomputable def kS (l:List Nat)(t:Nat):Value:=.str (nm l) t
noncomputable def kI (i t:Nat):Value:=.int (Int.ofNat i) t
noncomputable def kR (a:Nat):Value:=.ref a
noncomputable def PP:List Stmt→Nat→Stmt
 |[],_=>.Pass default
 |s::_,0=>s
 |_::l,n+1=>PP l n
noncomputable def Yt:Stmt→List Stmt
 |.ClassDef _ _ _ b _ _ _ _ _ _ _=>b
 |_=>[]
noncomputable def kT (i:Nat):Stmt:=PP zE.main.body i
noncomputable def kM (i j:Nat):Stmt:=PP (Yt (kT i)) j
noncomputable def kF (s:Stmt)(name qual:Str)(de kw doc md:Value)(ann:Option Addr)(code ct:Value):FuncData:=match s with
 |.FunctionDef _ a b _ _ _ sc _ _ _=>⟨name,qual,a,.stmts b,sc,3,[],de,kw,doc,md,ann,code,ct,0⟩
 |_=>default
end
noncomputable def k0 (P:Params):Obj:=⟨(.type SL.s14018661285674007319x4),none,(.dict ⟨[kE P [95,95,110,97,109,101,95,95] 1 (kS [98,117,105,108,116,105,110,115] 160),kE P [95,95,100,111,99,95,95] 2 (.builtin "builtins.__doc__:str#opaque"),kE P [95,95,112,97,99,107,97,103,101,95,95] 3 (.builtin "builtins.__package__:str#opaque"),kE P [95,95,108,111,97,100,101,114,95,95] 4 (.builtin "builtins.__loader__:shared#opaque"),kE P [95,95,115,112,101,99,95,95] 5 (.builtin SL.s11665532747177232413x24),kE P [95,95,98,117,105,108,100,95,99,108,97,115,115,95,95] 6 (.builtin SL.s15183661809925369436x15),kE P [95,95,105,109,112,111,114,116,95,95] 7 (.builtin SL.s13915890719876406383x10),kE P [97,98,115] 8 (.builtin SL.s13459172003223722735x3),kE P [97,108,108] 9 (.builtin SL.s10557405761357834076x3),kE P [97,110,121] 10 (.builtin SL.s4233737765568776869x3),kE P [97,115,99,105,105] 11 (.builtin SL.s2508922471967985374x5),kE P [98,105,110] 12 (.builtin SL.s15574269061696679450x3),kE P [98,114,101,97,107,112,111,105,110,116] 13 (.builtin SL.s6016482663378992977x10),kE P [99,97,108,108,97,98,108,101] 14 (.builtin SL.s5596568736180474577x8),kE P [99,104,114] 15 (.builtin SL.s2839554839881490554x3),kE P [99,111,109,112,105,108,101] 16 (.builtin SL.s725004073602090463x7),kE P [100,101,108,97,116,116,114] 17 (.builtin SL.s9436932552931045734x7),kE P [100,105,114] 18 (.builtin SL.s2754603736356183583x3),kE P [100,105,118,109,111,100] 19 (.builtin SL.s15185746759980889043x6),kE P [101,118,97,108] 20 (.builtin SL.s8192189862530294059x4),kE P [101,120,101,99] 21 (.builtin SL.s7038307821325472102x4),kE P [102,111,114,109,97,116] 22 (.builtin SL.s5662562618415449548x6),kE P [103,101,116,97,116,116,114] 23 (.builtin SL.s15281542589158584767x7),kE P [103,108,111,98,97,108,115] 24 (.builtin SL.s17651547275483570877x7),kE P [104,97,115,97,116,116,114] 25 (.builtin SL.s4036449017235975746x7),kE P [104,97,115,104] 26 (.builtin SL.s8879979712987360175x4),kE P [104,101,120] 27 (.builtin SL.s1801250619170735830x3),kE P [105,100] 28 (.builtin SL.s17659931425627118568x2),kE P [105,110,112,117,116] 29 (.builtin SL.s6063217899685152688x5),kE P [105,115,105,110,115,116,97,110,99,101] 30 (.builtin SL.s8008927332132565319x10),kE P [105,115,115,117,98,99,108,97,115,115] 31 (.builtin SL.s3544116645089599534x10),kE P [105,116,101,114] 32 (.builtin SL.s13761710972054866084x4),kE P [97,105,116,101,114] 33 (.builtin SL.s12896375587409280029x5),kE P [108,101,110] 34 (.builtin SL.s13014049009108672802x3),kE P [108,111,99,97,108,115] 35 (.builtin SL.s13935586738268321596x6),kE P [109,97,120] 36 (.builtin SL.s8200498257699607233x3),kE P [109,105,110] 37 (.builtin SL.s14114244577727609259x3),kE P [110,101,120,116] 38 (.builtin SL.s1499430450269397089x4),kE P [97,110,101,120,116] 39 (.builtin SL.s8755793994789770505x5),kE P [111,99,116] 40 (.builtin SL.s15725212667919936108x3),kE P [111,114,100] 41 (.builtin SL.s15791221867095933363x3),kE P [112,111,119] 42 (.builtin SL.s81309575031448614x3),kE P [112,114,105,110,116] 43 (.builtin SL.s8069831620301644142x5),kE P [114,101,112,114] 44 (.builtin SL.s10061844253413749634x4),kE P [114,111,117,110,100] 45 (.builtin SL.s9496514870978017513x5),kE P [115,101,116,97,116,116,114] 46 (.builtin SL.s8899691144933366716x7),kE P [115,111,114,116,101,100] 47 (.builtin SL.s15201008993051130160x6),kE P [115,117,109] 48 (.builtin SL.s741896355592496720x3),kE P [118,97,114,115] 49 (.builtin SL.s17925004256654032244x4),kE P [78,111,110,101] 50 .none,kE P [69,108,108,105,112,115,105,115] 51 .ellipsis,kE P [78,111,116,73,109,112,108,101,109,101,110,116,101,100] 52 .notImplemented,kE P [70,97,108,115,101] 53 (.bool false),kE P [84,114,117,101] 54 (.bool true),kE P [98,111,111,108] 55 (.type SL.s11695548795398191787x4),kE P [109,101,109,111,114,121,118,105,101,119] 56 (.type SL.s4156966113859768872x10),kE P [98,121,116,101,97,114,114,97,121] 57 (.type SL.s9501651726347032510x9),kE P [98,121,116,101,115] 58 (.type SL.s15722918466584999320x5),kE P [99,108,97,115,115,109,101,116,104,111,100] 59 (.type SL.s591115383303110208x11),kE P [99,111,109,112,108,101,120] 60 (.type SL.s15721156781594690315x7),kE P [100,105,99,116] 61 (.type SL.s14018661285674007319x4),kE P [101,110,117,109,101,114,97,116,101] 62 (.type SL.s14340494229221121180x9),kE P [102,105,108,116,101,114] 63 (.type SL.s13429844117177748173x6),kE P [102,108,111,97,116] 64 (.type SL.s16463266125957815391x5),kE P [102,114,111,122,101,110,115,101,116] 65 (.type SL.s4922535414793169389x9),kE P [112,114,111,112,101,114,116,121] 66 (.type SL.s8101838861749082086x8),kE P [105,110,116] 67 (.type SL.s7066276694103001551x3),kE P [108,105,115,116] 68 (.type SL.s9222952809800978799x4),kE P [109,97,112] 69 (.type SL.s462964344163437139x3),kE P [111,98,106,101,99,116] 70 (.type SL.s2742458400755230247x6),kE P [114,97,110,103,101] 71 (.type SL.s1438033511350832697x5),kE P [114,101,118,101,114,115,101,100] 72 (.type SL.s14365286008749172514x8),kE P [115,101,116] 73 (.type SL.s3642769012341782148x3),kE P [115,108,105,99,101] 74 (.type SL.s4674234679698826739x5),kE P [115,116,97,116,105,99,109,101,116,104,111,100] 75 (.type SL.s16656946322747308186x12),kE P [115,116,114] 76 (.type SL.s10796804682411823810x3),kE P [115,117,112,101,114] 77 (.type SL.s4290257624100764138x5),kE P [116,117,112,108,101] 78 (.type SL.s2766695959194262286x5),kE P [116,121,112,101] 79 (.type SL.s17162191345867700912x4),kE P [122,105,112] 80 (.type SL.s14339709457334898076x3),kE P [95,95,100,101,98,117,103,95,95] 81 (.bool true),kE P [66,97,115,101,69,120,99,101,112,116,105,111,110] 82 (.type SL.s4278001404047624695x13),kE P [66,97,115,101,69,120,99,101,112,116,105,111,110,71,114,111,117,112] 83 (.type SL.s6585700554429387442x18),kE P [69,120,99,101,112,116,105,111,110] 84 (.type SL.s5946037652744460706x9),kE P [71,101,110,101,114,97,116,111,114,69,120,105,116] 85 (.type SL.s7410770068591931388x13),kE P [75,101,121,98,111,97,114,100,73,110,116,101,114,114,117,112,116] 86 (.type SL.s11817881795495490833x17),kE P [83,121,115,116,101,109,69,120,105,116] 87 (.type SL.s15679963881808890155x10),kE P [65,114,105,116,104,109,101,116,105,99,69,114,114,111,114] 88 (.type SL.s3871700062485845797x15),kE P [65,115,115,101,114,116,105,111,110,69,114,114,111,114] 89 (.type SL.s7689518266570723881x14),kE P [65,116,116,114,105,98,117,116,101,69,114,114,111,114] 90 (.type SL.s9001593270443806431x14),kE P [66,117,102,102,101,114,69,114,114,111,114] 91 (.type SL.s6882542574934516792x11),kE P [69,79,70,69,114,114,111,114] 92 (.type SL.s14403400214490484960x8),kE P [73,109,112,111,114,116,69,114,114,111,114] 93 (.type SL.s14457978657717015782x11),kE P [76,111,111,107,117,112,69,114,114,111,114] 94 (.type SL.s1753610191782819921x11),kE P [77,101,109,111,114,121,69,114,114,111,114] 95 (.type SL.s14119380538032626715x11),kE P [78,97,109,101,69,114,114,111,114] 96 (.type SL.s11437920000406562045x9),kE P [79,83,69,114,114,111,114] 97 (.type SL.s10852414792293593619x7),kE P [82,101,102,101,114,101,110,99,101,69,114,114,111,114] 98 (.type SL.s14816307405966870543x14),kE P [82,117,110,116,105,109,101,69,114,114,111,114] 99 (.type SL.s8682627914449686677x12),kE P [83,116,111,112,65,115,121,110,99,73,116,101,114,97,116,105,111,110] 100 (.type SL.s4428170145600203450x18),kE P [83,116,111,112,73,116,101,114,97,116,105,111,110] 101 (.type SL.s5991306692159431302x13),kE P [83,121,110,116,97,120,69,114,114,111,114] 102 (.type SL.s16067994140765818257x11),kE P [83,121,115,116,101,109,69,114,114,111,114] 103 (.type SL.s2327743974964600596x11),kE P [84,121,112,101,69,114,114,111,114] 104 (.type SL.s2804747833354056582x9),kE P [86,97,108,117,101,69,114,114,111,114] 105 (.type SL.s6070975301684473832x10),kE P [87,97,114,110,105,110,103] 106 (.type SL.s14270485950484850486x7),kE P [70,108,111,97,116,105,110,103,80,111,105,110,116,69,114,114,111,114] 107 (.type SL.s12041534306414923332x18),kE P [79,118,101,114,102,108,111,119,69,114,114,111,114] 108 (.type SL.s2531307568338490285x13),kE P [90,101,114,111,68,105,118,105,115,105,111,110,69,114,114,111,114] 109 (.type SL.s631175304937289666x17),kE P [66,121,116,101,115,87,97,114,110,105,110,103] 110 (.type SL.s5144983644357021410x12),kE P [68,101,112,114,101,99,97,116,105,111,110,87,97,114,110,105,110,103] 111 (.type SL.s18039099521571816885x18),kE P [69,110,99,111,100,105,110,103,87,97,114,110,105,110,103] 112 (.type SL.s6011586214260557989x15),kE P [70,117,116,117,114,101,87,97,114,110,105,110,103] 113 (.type SL.s5430567037509283100x13),kE P [73,109,112,111,114,116,87,97,114,110,105,110,103] 114 (.type SL.s8117915138073963741x13),kE P [80,101,110,100,105,110,103,68,101,112,114,101,99,97,116,105,111,110,87,97,114,110,105,110,103] 115 (.type SL.s3423317712779056401x25),kE P [82,101,115,111,117,114,99,101,87,97,114,110,105,110,103] 116 (.type SL.s2007317383269046180x15),kE P [82,117,110,116,105,109,101,87,97,114,110,105,110,103] 117 (.type SL.s17481586968713580700x14),kE P [83,121,110,116,97,120,87,97,114,110,105,110,103] 118 (.type SL.s2450899226349176912x13),kE P [85,110,105,99,111,100,101,87,97,114,110,105,110,103] 119 (.type SL.s16626165730633575011x14),kE P [85,115,101,114,87,97,114,110,105,110,103] 120 (.type SL.s14288496050688921416x11),kE P [66,108,111,99,107,105,110,103,73,79,69,114,114,111,114] 121 (.type SL.s5735081916595925998x15),kE P [67,104,105,108,100,80,114,111,99,101,115,115,69,114,114,111,114] 122 (.type SL.s3865607918536308442x17),kE P [67,111,110,110,101,99,116,105,111,110,69,114,114,111,114] 123 (.type SL.s13337502604062700212x15),kE P [70,105,108,101,69,120,105,115,116,115,69,114,114,111,114] 124 (.type SL.s13114017843053701147x15),kE P [70,105,108,101,78,111,116,70,111,117,110,100,69,114,114,111,114] 125 (.type SL.s17467278006356818441x17),kE P [73,110,116,101,114,114,117,112,116,101,100,69,114,114,111,114] 126 (.type SL.s17722149559621369488x16),kE P [73,115,65,68,105,114,101,99,116,111,114,121,69,114,114,111,114] 127 (.type SL.s7855274175708717672x17),kE P [78,111,116,65,68,105,114,101,99,116,111,114,121,69,114,114,111,114] 128 (.type SL.s13351283678309829046x18),kE P [80,101,114,109,105,115,115,105,111,110,69,114,114,111,114] 129 (.type SL.s6668348653404991179x15),kE P [80,114,111,99,101,115,115,76,111,111,107,117,112,69,114,114,111,114] 130 (.type SL.s12913350958174193794x18),kE P [84,105,109,101,111,117,116,69,114,114,111,114] 131 (.type SL.s16115879512475548326x12),kE P [73,110,100,101,110,116,97,116,105,111,110,69,114,114,111,114] 132 (.type SL.s15920661018069861047x16),kE P [95,73,110,99,111,109,112,108,101,116,101,73,110,112,117,116,69,114,114,111,114] 133 (.type SL.s10779130036587390575x21),kE P [73,110,100,101,120,69,114,114,111,114] 134 (.type SL.s7801419657504700863x10),kE P [75,101,121,69,114,114,111,114] 135 (.type SL.s1688129525768580628x8),kE P [77,111,100,117,108,101,78,111,116,70,111,117,110,100,69,114,114,111,114] 136 (.type SL.s1031832959479892071x19),kE P [78,111,116,73,109,112,108,101,109,101,110,116,101,100,69,114,114,111,114] 137 (.type SL.s8991790508128307865x19),kE P [80,121,116,104,111,110,70,105,110,97,108,105,122,97,116,105,111,110,69,114,114,111,114] 138 (.type SL.s14539662485746970245x23),kE P [82,101,99,117,114,115,105,111,110,69,114,114,111,114] 139 (.type SL.s11643622729373238714x14),kE P [85,110,98,111,117,110,100,76,111,99,97,108,69,114,114,111,114] 140 (.type SL.s3386828779285465597x17),kE P [85,110,105,99,111,100,101,69,114,114,111,114] 141 (.type SL.s13042696260734638735x12),kE P [66,114,111,107,101,110,80,105,112,101,69,114,114,111,114] 142 (.type SL.s18239426817015966623x15),kE P [67,111,110,110,101,99,116,105,111,110,65,98,111,114,116,101,100,69,114,114,111,114] 143 (.type SL.s1270395311379034370x22),kE P [67,111,110,110,101,99,116,105,111,110,82,101,102,117,115,101,100,69,114,114,111,114] 144 (.type SL.s10696252587037064777x22),kE P [67,111,110,110,101,99,116,105,111,110,82,101,115,101,116,69,114,114,111,114] 145 (.type SL.s7852717498200857586x20),kE P [84,97,98,69,114,114,111,114] 146 (.type SL.s6377248116197321094x8),kE P [85,110,105,99,111,100,101,68,101,99,111,100,101,69,114,114,111,114] 147 (.type SL.s3834378056692298002x18),kE P [85,110,105,99,111,100,101,69,110,99,111,100,101,69,114,114,111,114] 148 (.type SL.s17586630440231065808x18),kE P [85,110,105,99,111,100,101,84,114,97,110,115,108,97,116,101,69,114,114,111,114] 149 (.type SL.s15234114252648025395x21),kE P [69,120,99,101,112,116,105,111,110,71,114,111,117,112] 150 (.type SL.s8496462677383758984x14),kE P [69,110,118,105,114,111,110,109,101,110,116,69,114,114,111,114] 151 (.type SL.s10852414792293593619x7),kE P [73,79,69,114,114,111,114] 152 (.type SL.s10852414792293593619x7),kE P [111,112,101,110] 153 (.builtin SL.s16789243406116112673x4),kE P [113,117,105,116] 154 (.builtin SL.s14400166428656793546x20),kE P [101,120,105,116] 155 (.builtin SL.s5857708277339239366x20),kE P [99,111,112,121,114,105,103,104,116] 156 (.builtin "builtins.copyright#opaque"),kE P [99,114,101,100,105,116,115] 157 (.builtin "builtins.credits#opaque"),kE P [108,105,99,101,110,115,101] 158 (.builtin "builtins.license#opaque"),kE P [104,101,108,112] 159 (.builtin SL.s7804999707787243718x20)]⟩ 159),⟨[]⟩⟩
noncomputable def k2 (P:Params):Obj:=⟨.none,none,(.dict ⟨[kE P [105,109,112,111,114,116,46,108,111,97,100,101,100,46,95,99,111,108,108,101,99,116,105,111,110,115] 185 (.bool true),kE P [99,108,97,115,115,46,95,102,114,111,122,101,110,95,105,109,112,111,114,116,108,105,98,46,66,117,105,108,116,105,110,73,109,112,111,114,116,101,114] 187 (kR 15),kE P [119,97,116,99,104,101,100,46,105,109,112,111,114,116] 208 (kR 19),kE P [99,108,97,115,115,46,95,102,114,111,122,101,110,95,105,109,112,111,114,116,108,105,98,46,77,111,100,117,108,101,83,112,101,99] 218 (kR 23),kE P [115,121,115,46,109,111,100,117,108,101,115,46,98,111,111,107,101,100,45,101,112,111,99,104] 247 (kI 3 0),kE P [115,121,115,46,109,111,100,117,108,101,115,46,108,97,110,100,101,100,46,95,99,111,108,108,101,99,116,105,111,110,115] 248 (.bool true),kE P [105,109,112,111,114,116,46,108,97,116,101,114,45,108,97,105,100,46,95,99,111,108,108,101,99,116,105,111,110,115] 263 (.bool true),kE P [119,97,116,99,104,101,100,46,108,105,98,114,97,114,121] 265 (kR 28),kE P [119,97,116,99,104,101,100,46,108,105,98,114,97,114,121,45,111,98,106,101,99,116,115] 0 (kS [13] 0),kE P [119,97,116,99,104,101,100,46,108,105,98,114,97,114,121,45,100,101,101,112,46,95,99,111,108,108,101,99,116,105,111,110,115] 266 (kS [4,0,0,12,4,0,0,12,4,0,0,3,4,0,0,12,8,4,100,105,99,116,2] 0),kE P [116,121,112,101,46,95,95,115,117,98,99,108,97,115,115,101,115,95,95,46,79,83,69,114,114,111,114,46,48] 447 (kI 150 0),kE P [116,121,112,101,46,95,95,115,117,98,99,108,97,115,115,101,115,95,95,46,79,83,69,114,114,111,114,46,110] 448 (kI 1 0)]⟩ 12),⟨[]⟩⟩
noncomputable def k3 (P:Params):Obj:=⟨(.type SL.s14018661285674007319x4),none,(.dict ⟨[kE P [95,95,110,97,109,101,95,95] 165 (kS [108,97,119,95,109,106,48,50,56,50,95,48,49] 1277),kE P [95,95,100,111,99,95,95] 166 .none,kE P [95,95,112,97,99,107,97,103,101,95,95] 167 .none,kE P [95,95,108,111,97,100,101,114,95,95] 168 (.builtin SL.s7097527257260152453x26),kE P [95,95,115,112,101,99,95,95] 169 .none,kE P [95,95,97,110,110,111,116,97,116,105,111,110,115,95,95] 170 (kR 6),kE P [95,95,98,117,105,108,116,105,110,115,95,95] 171 (kR 4),kE P [95,95,102,105,108,101,95,95] 173 (kS [47,99,108,97,105,109,47,99,117,116,46,112,121] 172),kE P [95,95,99,97,99,104,101,100,95,95] 174 .none,kE P [100,101,113,117,101] 272 (.type SL.s5314052453082223887x17),kE P [95,119,97,108,108] 285 (kR 39),kE P [95,112,108,97,105,110,95,110,97,109,101] 296 (kR 46),kE P [65,66,67,77,101,116,97] 322 (kR 63),kE P [95,65,66,67,76,105,107,101] 365 (kR 96),kE P [95,97,98,99,95,112,108,97,105,110,95,109,101,116,97] 372 (kR 105),kE P [102,115,112,97,116,104] 384 (kR 112),kE P [115,112,108,105,116,114,111,111,116] 395 (kR 119),kE P [110,111,114,109,112,97,116,104] 410 (kR 126),kE P [95,119,104,101,110,99,101] 420 (kR 133),kE P [95,105,110,100,101,120] 428 (kR 140),kE P [85,110,115,117,112,112,111,114,116,101,100,79,112,101,114,97,116,105,111,110] 450 (kR 150),kE P [73,79,66,97,115,101] 482 (kR 170),kE P [66,117,102,102,101,114,101,100,73,79,66,97,115,101] 500 (kR 185),kE P [84,101,120,116,73,79,66,97,115,101] 518 (kR 197),kE P [66,121,116,101,115,73,79] 780 (kR 427),kE P [83,116,114,105,110,103,73,79] 1067 (kR 674),kE P [95,107,105,110,100] 1078 (kR 683),kE P [95,102,115,112,97,116,104] 1087 (kR 690),kE P [95,99,104,101,99,107,95,97,114,103,95,116,121,112,101,115] 1097 (kR 697),kE P [105,115,97,98,115] 1104 (kR 704),kE P [106,111,105,110] 1115 (kR 711),kE P [100,105,114,110,97,109,101] 1125 (kR 718),kE P [115,104,108,101,120] 1266 (kR 809),kE P [115,112,108,105,116] 1276 (kR 821),kE P [95,108,97,119,95,119,111,114,100,115] 1284 (kR 826),kE P [95,108,97,119,95,105,116,101,109,115] 1290 (kR 831),kE P [95,108,97,119,95,108,101,102,116] 1302 (kR 838),kE P [95,108,97,119,95,114,111,111,116] 1310 (kR 845),kE P [95,108,97,119,95,112,108,97,99,101] 1316 (kR 850),kE P [95,108,97,119,95,112,108,97,105,110] 1322 (kR 855),kE P [95,108,97,119,95,116,101,120,116,115] 1328 (kR 860),kE P [95,108,97,119,95,116,111,108,100] 1336 (kR 867),kE P [108,97,119] 1342 (kR 872)]⟩ 43),⟨[]⟩⟩
noncomputable def UT (P:Params):Obj:=⟨(.type SL.s5856160107412720595x4),none,(.fields ⟨[(kS [102,115,112,97,116,104] 375),(kS [102,115,112,97,116,104] 376),(kS [47,99,108,97,105,109,47,99,117,116,46,112,121] 377),(kI 36 0),(kI 1 0),(kI 0 0),(kI 0 0),(kI 3 0),(kR 106),(.bool true),(kI 273 0),(kR 107),.none,(kR 108),(kR 109),(kR 110),(kI 382 0),(kI 36 0),(kS [47,99,108,97,105,109,47,99,117,116,46,112,121] 383)]⟩),⟨[]⟩⟩
noncomputable def Wf (P:Params):Obj:=⟨(.type SL.s7174869446012820540x8),none,(.func (kF (kT 10) (nm [102,115,112,97,116,104]) (nm [102,115,112,97,116,104]) .none .none .none (kS [111,115] 373) none (kR 111) .none)),⟨[]⟩⟩
noncomputable def U7 (P:Params):Obj:=⟨(.type SL.s5856160107412720595x4),none,(.fields ⟨[(kS [115,112,108,105,116,114,111,111,116] 387),(kS [115,112,108,105,116,114,111,111,116] 388),(kS [47,99,108,97,105,109,47,99,117,116,46,112,121] 389),(kI 53 0),(kI 1 0),(kI 0 0),(kI 0 0),(kI 3 0),(kR 113),(.bool true),(kI 273 0),(kR 114),.none,(kR 115),(kR 116),(kR 117),(kI 393 0),(kI 53 0),(kS [47,99,108,97,105,109,47,99,117,116,46,112,121] 394)]⟩),⟨[]⟩⟩
noncomputable def WT (P:Params):Obj:=⟨(.type SL.s7174869446012820540x8),none,(.func (kF (kT 12) (nm [115,112,108,105,116,114,111,111,116]) (nm [115,112,108,105,116,114,111,111,116]) .none .none .none (kS [99,112,121,51,49,51,46,112,111,115,105,120,112,97,116,104] 385) none (kR 118) .none)),⟨[]⟩⟩
noncomputable def Tt (P:Params):Obj:=⟨(.type SL.s5856160107412720595x4),none,(.fields ⟨[(kS [110,111,114,109,112,97,116,104] 396),(kS [110,111,114,109,112,97,116,104] 397),(kS [47,99,108,97,105,109,47,99,117,116,46,112,121] 398),(kI 67 0),(kI 1 0),(kI 0 0),(kI 0 0),(kI 3 0),(kR 120),(.bool true),(kI 273 0),(kR 121),.none,(kR 122),(kR 123),(kR 124),(kI 408 0),(kI 67 0),(kS [47,99,108,97,105,109,47,99,117,116,46,112,121] 409)]⟩),⟨[]⟩⟩
noncomputable def Wv (P:Params):Obj:=⟨(.type SL.s7174869446012820540x8),none,(.func (kF (kT 13) (nm [110,111,114,109,112,97,116,104]) (nm [110,111,114,109,112,97,116,104]) .none .none .none (kS [99,112,121,51,49,51,46,112,111,115,105,120,112,97,116,104] 385) none (kR 125) .none)),⟨[]⟩⟩
noncomputable def U9 (P:Params):Obj:=⟨(.type SL.s5856160107412720595x4),none,(.fields ⟨[(kS [95,105,110,100,101,120] 421),(kS [95,105,110,100,101,120] 422),(kS [47,99,108,97,105,109,47,99,117,116,46,112,121] 423),(kI 98 0),(kI 2 0),(kI 0 0),(kI 0 0),(kI 3 0),(kR 134),(.bool true),(kI 273 0),(kR 135),.none,(kR 136),(kR 137),(kR 138),(kI 426 0),(kI 98 0),(kS [47,99,108,97,105,109,47,99,117,116,46,112,121] 427)]⟩),⟨[]⟩⟩
noncomputable def Ul (P:Params):Obj:=⟨(.type SL.s7174869446012820540x8),none,(.func (kF (kT 16) (nm [95,105,110,100,101,120]) (nm [95,105,110,100,101,120]) .none .none .none (kS [105,111] 411) none (kR 139) .none)),⟨[]⟩⟩
noncomputable def W9 (P:Params):Obj:=⟨(.type SL.s5856160107412720595x4),none,(.fields ⟨[(kS [95,95,110,101,119,95,95] 465),(kS [73,79,66,97,115,101,46,95,95,110,101,119,95,95] 466),(kS [47,99,108,97,105,109,47,99,117,116,46,112,121] 467),(kI 110 0),(kI 1 0),(kI 1 0),(kI 0 0),(kI 15 0),(kR 161),(.bool true),(kI 273 0),(kR 162),.none,(kR 163),(kR 164),(kR 165),(kI 471 0),(kI 110 0),(kS [47,99,108,97,105,109,47,99,117,116,46,112,121] 472)]⟩),⟨[]⟩⟩
noncomputable def TF (P:Params):Obj:=⟨(.type SL.s7174869446012820540x8),none,(.func (kF (kM 18 1) (nm [95,95,110,101,119,95,95]) (nm [73,79,66,97,115,101,46,95,95,110,101,119,95,95]) .none .none .none (kS [105,111] 411) none (kR 166) .none)),⟨[]⟩⟩
noncomputable def Vr (P:Params):Obj:=⟨(.type SL.s14018661285674007319x4),none,(.dict ⟨[kE P [95,95,109,111,100,117,108,101,95,95] 458 (kS [105,111] 463),kE P [95,95,102,105,114,115,116,108,105,110,101,110,111,95,95] 462 (kI 107 461),kE P [95,95,110,101,119,95,95] 473 (kR 171),kE P [95,95,115,116,97,116,105,99,95,97,116,116,114,105,98,117,116,101,115,95,95] 474 (kR 168),kE P [95,95,100,105,99,116,95,95] 477 (kR 172),kE P [95,95,119,101,97,107,114,101,102,95,95] 479 (kR 173),kE P [95,95,100,111,99,95,95] 480 .none]⟩ 4),⟨[]⟩⟩
noncomputable def WY (P:Params):Obj:=⟨(.type SL.s17162191345867700912x4),none,(.cls ⟨nm [73,79,66,97,115,101],[(.type SL.s2742458400755230247x6)],[(kR 170),(.type SL.s2742458400755230247x6)],169,nm [73,79,66,97,115,101],true,[],[(kR 185),(kR 197)],false,none,false⟩),⟨[none,none,some (kS [73,79,66,97,115,101] 451),some (kS [73,79,66,97,115,101] 459),some .none,some (.bool true)]⟩⟩
noncomputable def Tu (P:Params):Obj:=⟨(.type SL.s16656946322747308186x12),none,(.fields ⟨[(kR 167)]⟩),⟨[]⟩⟩
noncomputable def Wq (P:Params):Obj:=⟨(.type SL.s14018661285674007319x4),none,(.dict ⟨[kE P [95,95,109,111,100,117,108,101,95,95] 508 (kS [105,111] 513),kE P [95,95,102,105,114,115,116,108,105,110,101,110,111,95,95] 512 (kI 116 511),kE P [95,95,115,116,97,116,105,99,95,97,116,116,114,105,98,117,116,101,115,95,95] 515 (kR 195),kE P [95,95,100,111,99,95,95] 516 .none]⟩ 2),⟨[]⟩⟩
noncomputable def Tc (P:Params):Obj:=⟨(.type SL.s17162191345867700912x4),none,(.cls ⟨nm [84,101,120,116,73,79,66,97,115,101],[(kR 170)],[(kR 197),(kR 170),(.type SL.s2742458400755230247x6)],196,nm [84,101,120,116,73,79,66,97,115,101],true,[],[(kR 674)],false,none,false⟩),⟨[some (kR 188),none,some (kS [84,101,120,116,73,79,66,97,115,101] 501),some (kS [84,101,120,116,73,79,66,97,115,101] 509),some .none,some (.bool true)]⟩⟩
noncomputable def Up (P:Params):Obj:=⟨(.type SL.s17162191345867700912x4),none,(.cls ⟨nm [66,121,116,101,115,73,79],[(kR 185)],[(kR 427),(kR 185),(kR 170),(.type SL.s2742458400755230247x6)],426,nm [66,121,116,101,115,73,79],true,[],[],false,none,false⟩),⟨[some (kR 200),none,some (kS [66,121,116,101,115,73,79] 519),some (kS [66,121,116,101,115,73,79] 527),some .none,some (.bool true)]⟩⟩
noncomputable def Uq (P:Params):Obj:=⟨(.type SL.s2766695959194262286x5),none,(.seq ⟨[(kS [] 795),(kS [10] 796)]⟩ 0),⟨[]⟩⟩
noncomputable def TG (P:Params):Obj:=⟨(.type SL.s5856160107412720595x4),none,(.fields ⟨[(kS [95,95,105,110,105,116,95,95] 797),(kS [83,116,114,105,110,103,73,79,46,95,95,105,110,105,116,95,95] 798),(kS [47,99,108,97,105,109,47,99,117,116,46,112,121] 799),(kI 291 0),(kI 3 0),(kI 0 0),(kI 0 0),(kI 3 0),(kR 438),(.bool true),(kI 273 0),(kR 439),.none,(kR 440),(kR 441),(kR 442),(kI 803 0),(kI 291 0),(kS [47,99,108,97,105,109,47,99,117,116,46,112,121] 804)]⟩),⟨[]⟩⟩
noncomputable def S6 (P:Params):Obj:=⟨(.type SL.s7174869446012820540x8),none,(.func (kF (kM 22 1) (nm [95,95,105,110,105,116,95,95]) (nm [83,116,114,105,110,103,73,79,46,95,95,105,110,105,116,95,95]) (kR 437) .none .none (kS [105,111] 411) none (kR 443) .none)),⟨[]⟩⟩
noncomputable def T3 (P:Params):Obj:=⟨(.type SL.s5856160107412720595x4),none,(.fields ⟨[(kS [95,95,116,114,97,110,115,108,97,116,101,100] 806),(kS [83,116,114,105,110,103,73,79,46,95,95,116,114,97,110,115,108,97,116,101,100] 807),(kS [47,99,108,97,105,109,47,99,117,116,46,112,121] 808),(kI 304 0),(kI 2 0),(kI 0 0),(kI 0 0),(kI 3 0),(kR 445),(.bool true),(kI 273 0),(kR 446),.none,(kR 447),(kR 448),(kR 449),(kI 812 0),(kI 304 0),(kS [47,99,108,97,105,109,47,99,117,116,46,112,121] 813)]⟩),⟨[]⟩⟩
noncomputable def Uu (P:Params):Obj:=⟨(.type SL.s7174869446012820540x8),none,(.func (kF (kM 22 2) (nm [95,95,116,114,97,110,115,108,97,116,101,100]) (nm [83,116,114,105,110,103,73,79,46,95,95,116,114,97,110,115,108,97,116,101,100]) .none .none .none (kS [105,111] 411) none (kR 450) .none)),⟨[]⟩⟩
noncomputable def Uh (P:Params):Obj:=⟨(.type SL.s5856160107412720595x4),none,(.fields ⟨[(kS [95,95,99,104,101,99,107] 815),(kS [83,116,114,105,110,103,73,79,46,95,95,99,104,101,99,107] 816),(kS [47,99,108,97,105,109,47,99,117,116,46,112,121] 817),(kI 312 0),(kI 1 0),(kI 0 0),(kI 0 0),(kI 3 0),(kR 452),(.bool true),(kI 273 0),(kR 453),.none,(kR 454),(kR 455),(kR 456),(kI 819 0),(kI 312 0),(kS [47,99,108,97,105,109,47,99,117,116,46,112,121] 820)]⟩),⟨[]⟩⟩
noncomputable def Tr (P:Params):Obj:=⟨(.type SL.s7174869446012820540x8),none,(.func (kF (kM 22 3) (nm [95,95,99,104,101,99,107]) (nm [83,116,114,105,110,103,73,79,46,95,95,99,104,101,99,107]) .none .none .none (kS [105,111] 411) none (kR 457) .none)),⟨[]⟩⟩
noncomputable def SN (P:Params):Obj:=⟨(.type SL.s2766695959194262286x5),none,(.seq ⟨[(.int (-1) 988)]⟩ 0),⟨[]⟩⟩
noncomputable def Wb (P:Params):Obj:=⟨(.type SL.s5856160107412720595x4),none,(.fields ⟨[(kS [114,101,97,100] 989),(kS [83,116,114,105,110,103,73,79,46,114,101,97,100] 990),(kS [47,99,108,97,105,109,47,99,117,116,46,112,121] 991),(kI 434 0),(kI 2 0),(kI 2 0),(kI 0 0),(kI 3 0),(kR 614),(.bool true),(kI 273 0),(kR 615),.none,(kR 616),(kR 617),(kR 618),(kI 996 0),(kI 434 0),(kS [47,99,108,97,105,109,47,99,117,116,46,112,121] 997)]⟩),⟨[]⟩⟩
noncomputable def Uc (P:Params):Obj:=⟨(.type SL.s7174869446012820540x8),none,(.func (kF (kM 22 25) (nm [114,101,97,100]) (nm [83,116,114,105,110,103,73,79,46,114,101,97,100]) (kR 613) .none .none (kS [105,111] 411) none (kR 619) .none)),⟨[]⟩⟩
noncomputable def VP (P:Params):Obj:=⟨(.type SL.s14018661285674007319x4),none,(.dict ⟨[kE P [95,95,109,111,100,117,108,101,95,95] 788 (kS [95,105,111] 793),kE P [95,95,102,105,114,115,116,108,105,110,101,110,111,95,95] 792 (kI 288 791),kE P [95,95,105,110,105,116,95,95] 805 (kR 444),kE P [95,83,116,114,105,110,103,73,79,95,95,116,114,97,110,115,108,97,116,101,100] 814 (kR 451),kE P [95,83,116,114,105,110,103,73,79,95,95,99,104,101,99,107] 821 (kR 458),kE P [95,83,116,114,105,110,103,73,79,95,95,99,104,101,99,107,95,100,111,116] 828 (kR 465),kE P [95,83,116,114,105,110,103,73,79,95,95,108,105,110,101] 843 (kR 472),kE P [99,108,111,115,101,100] 851 (kR 480),kE P [108,105,110,101,95,98,117,102,102,101,114,105,110,103] 859 (kR 488),kE P [110,101,119,108,105,110,101,115] 867 (kR 496),kE P [101,110,99,111,100,105,110,103] 875 (kR 504),kE P [101,114,114,111,114,115] 883 (kR 512),kE P [99,108,111,115,101] 890 (kR 519),kE P [95,95,101,110,116,101,114,95,95] 897 (kR 526),kE P [95,95,101,120,105,116,95,95] 905 (kR 533),kE P [114,101,97,100,97,98,108,101] 912 (kR 540),kE P [119,114,105,116,97,98,108,101] 919 (kR 547),kE P [115,101,101,107,97,98,108,101] 926 (kR 554),kE P [105,115,97,116,116,121] 933 (kR 561),kE P [102,108,117,115,104] 940 (kR 568),kE P [102,105,108,101,110,111] 947 (kR 575),kE P [100,101,116,97,99,104] 954 (kR 582),kE P [103,101,116,118,97,108,117,101] 961 (kR 589),kE P [116,101,108,108] 968 (kR 596),kE P [115,101,101,107] 978 (kR 604),kE P [116,114,117,110,99,97,116,101] 986 (kR 612),kE P [114,101,97,100] 998 (kR 620),kE P [114,101,97,100,108,105,110,101] 1008 (kR 628),kE P [114,101,97,100,108,105,110,101,115] 1018 (kR 636),kE P [95,95,105,116,101,114,95,95] 1025 (kR 643),kE P [95,95,110,101,120,116,95,95] 1033 (kR 650),kE P [119,114,105,116,101] 1045 (kR 657),kE P [119,114,105,116,101,108,105,110,101,115] 1053 (kR 664),kE P [95,95,114,101,112,114,95,95] 1060 (kR 671),kE P [95,95,115,116,97,116,105,99,95,97,116,116,114,105,98,117,116,101,115,95,95] 1064 (kR 672),kE P [95,95,100,111,99,95,95] 1065 .none]⟩ 2),⟨[]⟩⟩
noncomputable def WN (P:Params):Obj:=⟨(.type SL.s17162191345867700912x4),none,(.cls ⟨nm [83,116,114,105,110,103,73,79],[(kR 197)],[(kR 674),(kR 197),(kR 170),(.type SL.s2742458400755230247x6)],673,nm [83,116,114,105,110,103,73,79],true,[],[],false,none,false⟩),⟨[some (kR 430),none,some (kS [83,116,114,105,110,103,73,79] 781),some (kS [83,116,114,105,110,103,73,79] 789),some .none,some (.bool true)]⟩⟩
noncomputable def VD (P:Params):Obj:=⟨(.type SL.s2766695959194262286x5),none,(.seq ⟨[.none,.none,(.bool false),(.bool false)]⟩ 0),⟨[]⟩⟩
noncomputable def V8 (P:Params):Obj:=⟨(.type SL.s5856160107412720595x4),none,(.fields ⟨[(kS [95,95,105,110,105,116,95,95] 1140),(kS [115,104,108,101,120,46,95,95,105,110,105,116,95,95] 1141),(kS [47,99,108,97,105,109,47,99,117,116,46,112,121] 1142),(kI 559 0),(kI 5 0),(kI 0 0),(kI 0 0),(kI 3 0),(kR 727),(.bool true),(kI 273 0),(kR 728),.none,(kR 729),(kR 730),(kR 731),(kI 1149 0),(kI 559 0),(kS [47,99,108,97,105,109,47,99,117,116,46,112,121] 1150)]⟩),⟨[]⟩⟩
noncomputable def Ui (P:Params):Obj:=⟨(.type SL.s7174869446012820540x8),none,(.func (kF (kM 31 0) (nm [95,95,105,110,105,116,95,95]) (nm [115,104,108,101,120,46,95,95,105,110,105,116,95,95]) (kR 726) .none .none (kS [99,112,121,51,49,51,46,115,104,108,101,120] 1126) none (kR 732) .none)),⟨[]⟩⟩
noncomputable def UL (P:Params):Obj:=⟨(.type SL.s5856160107412720595x4),none,(.fields ⟨[(kS [112,117,110,99,116,117,97,116,105,111,110,95,99,104,97,114,115] 1152),(kS [115,104,108,101,120,46,112,117,110,99,116,117,97,116,105,111,110,95,99,104,97,114,115] 1153),(kS [47,99,108,97,105,109,47,99,117,116,46,112,121] 1154),(kI 600 0),(kI 1 0),(kI 0 0),(kI 0 0),(kI 3 0),(kR 734),(.bool true),(kI 273 0),(kR 735),.none,(kR 736),(kR 737),(kR 738),(kI 1156 0),(kI 600 0),(kS [47,99,108,97,105,109,47,99,117,116,46,112,121] 1157)]⟩),⟨[]⟩⟩
noncomputable def VK (P:Params):Obj:=⟨(.type SL.s7174869446012820540x8),none,(.func (kF (kM 31 1) (nm [112,117,110,99,116,117,97,116,105,111,110,95,99,104,97,114,115]) (nm [115,104,108,101,120,46,112,117,110,99,116,117,97,116,105,111,110,95,99,104,97,114,115]) .none .none .none (kS [99,112,121,51,49,51,46,115,104,108,101,120] 1126) none (kR 739) .none)),⟨[]⟩⟩
noncomputable def Vn (P:Params):Obj:=⟨(.type SL.s8101838861749082086x8),none,(.fields ⟨[(kR 740),.none,.none,.none,(kS [112,117,110,99,116,117,97,116,105,111,110,95,99,104,97,114,115] 1159),(.bool false)]⟩),⟨[]⟩⟩
noncomputable def Vw (P:Params):Obj:=⟨(.type SL.s5856160107412720595x4),none,(.fields ⟨[(kS [103,101,116,95,116,111,107,101,110] 1184),(kS [115,104,108,101,120,46,103,101,116,95,116,111,107,101,110] 1185),(kS [47,99,108,97,105,109,47,99,117,116,46,112,121] 1186),(kI 627 0),(kI 1 0),(kI 0 0),(kI 0 0),(kI 3 0),(kR 764),(.bool true),(kI 273 0),(kR 765),.none,(kR 766),(kR 767),(kR 768),(kI 1193 0),(kI 627 0),(kS [47,99,108,97,105,109,47,99,117,116,46,112,121] 1194)]⟩),⟨[]⟩⟩
noncomputable def WD (P:Params):Obj:=⟨(.type SL.s7174869446012820540x8),none,(.func (kF (kM 31 5) (nm [103,101,116,95,116,111,107,101,110]) (nm [115,104,108,101,120,46,103,101,116,95,116,111,107,101,110]) .none .none .none (kS [99,112,121,51,49,51,46,115,104,108,101,120] 1126) none (kR 769) .none)),⟨[]⟩⟩
noncomputable def Wi (P:Params):Obj:=⟨(.type SL.s5856160107412720595x4),none,(.fields ⟨[(kS [114,101,97,100,95,116,111,107,101,110] 1196),(kS [115,104,108,101,120,46,114,101,97,100,95,116,111,107,101,110] 1197),(kS [47,99,108,97,105,109,47,99,117,116,46,112,121] 1198),(kI 654 0),(kI 1 0),(kI 0 0),(kI 0 0),(kI 3 0),(kR 771),(.bool true),(kI 273 0),(kR 772),.none,(kR 773),(kR 774),(kR 775),(kI 1204 0),(kI 654 0),(kS [47,99,108,97,105,109,47,99,117,116,46,112,121] 1205)]⟩),⟨[]⟩⟩
noncomputable def WW (P:Params):Obj:=⟨(.type SL.s7174869446012820540x8),none,(.func (kF (kM 31 6) (nm [114,101,97,100,95,116,111,107,101,110]) (nm [115,104,108,101,120,46,114,101,97,100,95,116,111,107,101,110]) .none .none .none (kS [99,112,121,51,49,51,46,115,104,108,101,120] 1126) none (kR 776) .none)),⟨[]⟩⟩
noncomputable def Wc (P:Params):Obj:=⟨(.type SL.s5856160107412720595x4),none,(.fields ⟨[(kS [95,95,105,116,101,114,95,95] 1224),(kS [115,104,108,101,120,46,95,95,105,116,101,114,95,95] 1225),(kS [47,99,108,97,105,109,47,99,117,116,46,112,121] 1226),(kI 801 0),(kI 1 0),(kI 0 0),(kI 0 0),(kI 3 0),(kR 793),(.bool true),(kI 273 0),(kR 794),.none,(kR 795),(kR 796),(kR 797),(kI 1228 0),(kI 801 0),(kS [47,99,108,97,105,109,47,99,117,116,46,112,121] 1229)]⟩),⟨[]⟩⟩
noncomputable def U4 (P:Params):Obj:=⟨(.type SL.s7174869446012820540x8),none,(.func (kF (kM 31 9) (nm [95,95,105,116,101,114,95,95]) (nm [115,104,108,101,120,46,95,95,105,116,101,114,95,95]) .none .none .none (kS [99,112,121,51,49,51,46,115,104,108,101,120] 1126) none (kR 798) .none)),⟨[]⟩⟩
noncomputable def Um (P:Params):Obj:=⟨(.type SL.s5856160107412720595x4),none,(.fields ⟨[(kS [95,95,110,101,120,116,95,95] 1231),(kS [115,104,108,101,120,46,95,95,110,101,120,116,95,95] 1232),(kS [47,99,108,97,105,109,47,99,117,116,46,112,121] 1233),(kI 804 0),(kI 1 0),(kI 0 0),(kI 0 0),(kI 3 0),(kR 800),(.bool true),(kI 273 0),(kR 801),.none,(kR 802),(kR 803),(kR 804),(kI 1236 0),(kI 804 0),(kS [47,99,108,97,105,109,47,99,117,116,46,112,121] 1237)]⟩),⟨[]⟩⟩
noncomputable def T9 (P:Params):Obj:=⟨(.type SL.s7174869446012820540x8),none,(.func (kF (kM 31 10) (nm [95,95,110,101,120,116,95,95]) (nm [115,104,108,101,120,46,95,95,110,101,120,116,95,95]) .none .none .none (kS [99,112,121,51,49,51,46,115,104,108,101,120] 1126) none (kR 805) .none)),⟨[]⟩⟩
noncomputable def VF (P:Params):Obj:=⟨(.type SL.s14018661285674007319x4),none,(.dict ⟨[kE P [95,95,109,111,100,117,108,101,95,95] 1135 (kS [99,112,121,51,49,51,46,115,104,108,101,120] 1126),kE P [95,95,102,105,114,115,116,108,105,110,101,110,111,95,95] 1139 (kI 557 1138),kE P [95,95,105,110,105,116,95,95] 1151 (kR 733),kE P [112,117,110,99,116,117,97,116,105,111,110,95,99,104,97,114,115] 1159 (kR 741),kE P [112,117,115,104,95,116,111,107,101,110] 1167 (kR 748),kE P [112,117,115,104,95,115,111,117,114,99,101] 1176 (kR 756),kE P [112,111,112,95,115,111,117,114,99,101] 1183 (kR 763),kE P [103,101,116,95,116,111,107,101,110] 1195 (kR 770),kE P [114,101,97,100,95,116,111,107,101,110] 1206 (kR 777),kE P [115,111,117,114,99,101,104,111,111,107] 1214 (kR 784),kE P [101,114,114,111,114,95,108,101,97,100,101,114] 1223 (kR 792),kE P [95,95,105,116,101,114,95,95] 1230 (kR 799),kE P [95,95,110,101,120,116,95,95] 1238 (kR 806),kE P [95,95,115,116,97,116,105,99,95,97,116,116,114,105,98,117,116,101,115,95,95] 1259 (kR 807),kE P [95,95,100,105,99,116,95,95] 1261 (kR 810),kE P [95,95,119,101,97,107,114,101,102,95,95] 1263 (kR 811),kE P [95,95,100,111,99,95,95] 1264 .none]⟩ 4),⟨[]⟩⟩
noncomputable def VJ (P:Params):Obj:=⟨(.type SL.s17162191345867700912x4),none,(.cls ⟨nm [115,104,108,101,120],[(.type SL.s2742458400755230247x6)],[(kR 809),(.type SL.s2742458400755230247x6)],808,nm [115,104,108,101,120],true,[],[],false,none,false⟩),⟨[none,none,some (kS [115,104,108,101,120] 1128),some (kS [115,104,108,101,120] 1136),some (.builtin SL.s11443829558043349243x14),some (.bool true)]⟩⟩
noncomputable def Vi (P:Params):Obj:=⟨(.type SL.s2766695959194262286x5),none,(.seq ⟨[(.bool false),(.bool true)]⟩ 0),⟨[]⟩⟩
noncomputable def TP (P:Params):Obj:=⟨(.type SL.s5856160107412720595x4),none,(.fields ⟨[(kS [115,112,108,105,116] 1267),(kS [115,112,108,105,116] 1268),(kS [47,99,108,97,105,109,47,99,117,116,46,112,121] 1269),(kI 809 0),(kI 3 0),(kI 0 0),(kI 0 0),(kI 3 0),(kR 815),(.bool true),(kI 273 0),(kR 816),.none,(kR 817),(kR 818),(kR 819),(kI 1274 0),(kI 809 0),(kS [47,99,108,97,105,109,47,99,117,116,46,112,121] 1275)]⟩),⟨[]⟩⟩
noncomputable def Wu (P:Params):Obj:=⟨(.type SL.s7174869446012820540x8),none,(.func (kF (kT 32) (nm [115,112,108,105,116]) (nm [115,112,108,105,116]) (kR 814) .none .none (kS [99,112,121,51,49,51,46,115,104,108,101,120] 1126) none (kR 820) .none)),⟨[]⟩⟩
noncomputable def Xb (P:Params):Obj:=⟨(.type SL.s5856160107412720595x4),none,(.fields ⟨[(kS [95,108,97,119,95,119,111,114,100,115] 1279),(kS [95,108,97,119,95,119,111,114,100,115] 1280),(kS [47,99,108,97,105,109,47,99,117,116,46,112,121] 1281),(kI 818 0),(kI 1 0),(kI 0 0),(kI 0 0),(kI 3 0),(kR 822),(.bool true),(kI 273 0),(kR 823),.none,.none,.none,(kR 824),(kI 1282 0),(kI 818 0),(kS [47,99,108,97,105,109,47,99,117,116,46,112,121] 1283)]⟩),⟨[]⟩⟩
noncomputable def WQ (P:Params):Obj:=⟨(.type SL.s7174869446012820540x8),none,(.func (kF (kT 34) (nm [95,108,97,119,95,119,111,114,100,115]) (nm [95,108,97,119,95,119,111,114,100,115]) .none .none .none (kS [108,97,119,95,109,106,48,50,56,50,95,48,49] 1277) none (kR 825) .none)),⟨[]⟩⟩
noncomputable def W2 (P:Params):Obj:=⟨(.type SL.s5856160107412720595x4),none,(.fields ⟨[(kS [95,108,97,119,95,105,116,101,109,115] 1285),(kS [95,108,97,119,95,105,116,101,109,115] 1286),(kS [47,99,108,97,105,109,47,99,117,116,46,112,121] 1287),(kI 826 0),(kI 1 0),(kI 0 0),(kI 0 0),(kI 3 0),(kR 827),(.bool true),(kI 273 0),(kR 828),.none,.none,.none,(kR 829),(kI 1288 0),(kI 826 0),(kS [47,99,108,97,105,109,47,99,117,116,46,112,121] 1289)]⟩),⟨[]⟩⟩
noncomputable def UW (P:Params):Obj:=⟨(.type SL.s7174869446012820540x8),none,(.func (kF (kT 35) (nm [95,108,97,119,95,105,116,101,109,115]) (nm [95,108,97,119,95,105,116,101,109,115]) .none .none .none (kS [108,97,119,95,109,106,48,50,56,50,95,48,49] 1277) none (kR 830) .none)),⟨[]⟩⟩
noncomputable def Wa (P:Params):Obj:=⟨(.type SL.s5856160107412720595x4),none,(.fields ⟨[(kS [95,108,97,119,95,108,101,102,116] 1291),(kS [95,108,97,119,95,108,101,102,116] 1292),(kS [47,99,108,97,105,109,47,99,117,116,46,112,121] 1293),(kI 831 0),(kI 2 0),(kI 0 0),(kI 0 0),(kI 3 0),(kR 832),(.bool true),(kI 273 0),(kR 833),.none,(kR 834),(kR 835),(kR 836),(kI 1300 0),(kI 831 0),(kS [47,99,108,97,105,109,47,99,117,116,46,112,121] 1301)]⟩),⟨[]⟩⟩
noncomputable def TJ (P:Params):Obj:=⟨(.type SL.s7174869446012820540x8),none,(.func (kF (kT 36) (nm [95,108,97,119,95,108,101,102,116]) (nm [95,108,97,119,95,108,101,102,116]) .none .none .none (kS [108,97,119,95,109,106,48,50,56,50,95,48,49] 1277) none (kR 837) .none)),⟨[]⟩⟩
noncomputable def W5 (P:Params):Obj:=⟨(.type SL.s5856160107412720595x4),none,(.fields ⟨[(kS [95,108,97,119,95,114,111,111,116] 1303),(kS [95,108,97,119,95,114,111,111,116] 1304),(kS [47,99,108,97,105,109,47,99,117,116,46,112,121] 1305),(kI 845 0),(kI 1 0),(kI 0 0),(kI 0 0),(kI 3 0),(kR 839),(.bool true),(kI 273 0),(kR 840),.none,(kR 841),(kR 842),(kR 843),(kI 1308 0),(kI 845 0),(kS [47,99,108,97,105,109,47,99,117,116,46,112,121] 1309)]⟩),⟨[]⟩⟩
noncomputable def Ux (P:Params):Obj:=⟨(.type SL.s7174869446012820540x8),none,(.func (kF (kT 37) (nm [95,108,97,119,95,114,111,111,116]) (nm [95,108,97,119,95,114,111,111,116]) .none .none .none (kS [108,97,119,95,109,106,48,50,56,50,95,48,49] 1277) none (kR 844) .none)),⟨[]⟩⟩
noncomputable def VH (P:Params):Obj:=⟨(.type SL.s5856160107412720595x4),none,(.fields ⟨[(kS [95,108,97,119,95,112,108,97,99,101] 1311),(kS [95,108,97,119,95,112,108,97,99,101] 1312),(kS [47,99,108,97,105,109,47,99,117,116,46,112,121] 1313),(kI 848 0),(kI 1 0),(kI 0 0),(kI 0 0),(kI 3 0),(kR 846),(.bool true),(kI 273 0),(kR 847),.none,.none,.none,(kR 848),(kI 1314 0),(kI 848 0),(kS [47,99,108,97,105,109,47,99,117,116,46,112,121] 1315)]⟩),⟨[]⟩⟩
noncomputable def Xa (P:Params):Obj:=⟨(.type SL.s7174869446012820540x8),none,(.func (kF (kT 38) (nm [95,108,97,119,95,112,108,97,99,101]) (nm [95,108,97,119,95,112,108,97,99,101]) .none .none .none (kS [108,97,119,95,109,106,48,50,56,50,95,48,49] 1277) none (kR 849) .none)),⟨[]⟩⟩
noncomputable def S9 (P:Params):Obj:=⟨(.type SL.s5856160107412720595x4),none,(.fields ⟨[(kS [95,108,97,119,95,112,108,97,105,110] 1317),(kS [95,108,97,119,95,112,108,97,105,110] 1318),(kS [47,99,108,97,105,109,47,99,117,116,46,112,121] 1319),(kI 854 0),(kI 3 0),(kI 0 0),(kI 0 0),(kI 3 0),(kR 851),(.bool true),(kI 273 0),(kR 852),.none,.none,.none,(kR 853),(kI 1320 0),(kI 854 0),(kS [47,99,108,97,105,109,47,99,117,116,46,112,121] 1321)]⟩),⟨[]⟩⟩
noncomputable def Vp (P:Params):Obj:=⟨(.type SL.s7174869446012820540x8),none,(.func (kF (kT 39) (nm [95,108,97,119,95,112,108,97,105,110]) (nm [95,108,97,119,95,112,108,97,105,110]) .none .none .none (kS [108,97,119,95,109,106,48,50,56,50,95,48,49] 1277) none (kR 854) .none)),⟨[]⟩⟩
noncomputable def VN (P:Params):Obj:=⟨(.type SL.s5856160107412720595x4),none,(.fields ⟨[(kS [95,108,97,119,95,116,101,120,116,115] 1323),(kS [95,108,97,119,95,116,101,120,116,115] 1324),(kS [47,99,108,97,105,109,47,99,117,116,46,112,121] 1325),(kI 871 0),(kI 2 0),(kI 0 0),(kI 0 0),(kI 3 0),(kR 856),(.bool true),(kI 273 0),(kR 857),.none,.none,.none,(kR 858),(kI 1326 0),(kI 871 0),(kS [47,99,108,97,105,109,47,99,117,116,46,112,121] 1327)]⟩),⟨[]⟩⟩
noncomputable def VL (P:Params):Obj:=⟨(.type SL.s7174869446012820540x8),none,(.func (kF (kT 40) (nm [95,108,97,119,95,116,101,120,116,115]) (nm [95,108,97,119,95,116,101,120,116,115]) .none .none .none (kS [108,97,119,95,109,106,48,50,56,50,95,48,49] 1277) none (kR 859) .none)),⟨[]⟩⟩
noncomputable def W6 (P:Params):Obj:=⟨(.type SL.s5856160107412720595x4),none,(.fields ⟨[(kS [95,108,97,119,95,116,111,108,100] 1329),(kS [95,108,97,119,95,116,111,108,100] 1330),(kS [47,99,108,97,105,109,47,99,117,116,46,112,121] 1331),(kI 874 0),(kI 1 0),(kI 0 0),(kI 0 0),(kI 3 0),(kR 861),(.bool true),(kI 273 0),(kR 862),.none,(kR 863),(kR 864),(kR 865),(kI 1334 0),(kI 874 0),(kS [47,99,108,97,105,109,47,99,117,116,46,112,121] 1335)]⟩),⟨[]⟩⟩
noncomputable def WM (P:Params):Obj:=⟨(.type SL.s7174869446012820540x8),none,(.func (kF (kT 41) (nm [95,108,97,119,95,116,111,108,100]) (nm [95,108,97,119,95,116,111,108,100]) .none .none .none (kS [108,97,119,95,109,106,48,50,56,50,95,48,49] 1277) none (kR 866) .none)),⟨[]⟩⟩
noncomputable def Tg (P:Params):Obj:=⟨(.type SL.s5856160107412720595x4),none,(.fields ⟨[(kS [108,97,119] 1337),(kS [108,97,119] 1338),(kS [47,99,108,97,105,109,47,99,117,116,46,112,121] 1339),(kI 879 0),(kI 1 0),(kI 0 0),(kI 0 0),(kI 3 0),(kR 868),(.bool true),(kI 273 0),(kR 869),.none,.none,.none,(kR 870),(kI 1340 0),(kI 879 0),(kS [47,99,108,97,105,109,47,99,117,116,46,112,121] 1341)]⟩),⟨[]⟩⟩
noncomputable def Wo (P:Params):Obj:=⟨(.type SL.s7174869446012820540x8),none,(.func (kF (kT 42) (nm [108,97,119]) (nm [108,97,119]) .none .none .none (kS [108,97,119,95,109,106,48,50,56,50,95,48,49] 1277) none (kR 871) .none)),⟨[]⟩⟩
noncomputable def Kl (P:Params):Frag:=[(0,k0 P),(2,k2 P),(3,k3 P),(111,UT P),(112,Wf P),(118,U7 P),(119,WT P),(125,Tt P),(126,Wv P),(139,U9 P),(140,Ul P),(166,W9 P),(167,TF P),(169,Vr P),(170,WY P),(171,Tu P),(196,Wq P),(197,Tc P),(427,Up P),(437,Uq P),(443,TG P),(444,S6 P),(450,T3 P),(451,Uu P),(457,Uh P),(458,Tr P),(613,SN P),(619,Wb P),(620,Uc P),(673,VP P),(674,WN P),(726,VD P),(732,V8 P),(733,Ui P),(739,UL P),(740,VK P),(741,Vn P),(769,Vw P),(770,WD P),(776,Wi P),(777,WW P),(798,Wc P),(799,U4 P),(805,Um P),(806,T9 P),(808,VF P),(809,VJ P),(814,Vi P),(820,TP P),(821,Wu P),(825,Xb P),(826,WQ P),(830,W2 P),(831,UW P),(837,Wa P),(838,TJ P),(844,W5 P),(845,Ux P),(849,VH P),(850,Xa P),(854,S9 P),(855,Vp P),(859,VN P),(860,VL P),(866,W6 P),(867,WM P),(871,Tg P),(872,Wo P)]
noncomputable def ktop (P:Params):KT:=(.node (some (k0 P)) (.node none (.node (some (k3 P)) (.node none (.node none (.node none (.node none .nil (.node none (.node none .nil (.node (some (UW P)) .nil .nil)) .nil)) (.node none (.node none (.node none .nil (.node (some (U4 P)) .nil .nil)) .nil) .nil)) (.node none .nil (.node (some (UT P)) .nil .nil))) (.node none (.node none .nil (.node none (.node (some (TF P)) .nil .nil) (.node none (.node none .nil (.node (some (Tg P)) .nil .nil)) .nil))) (.node none (.node none .nil (.node none (.node none .nil (.node (some (Vp P)) .nil .nil)) .nil)) (.node (some (WT P)) .nil .nil)))) (.node none (.node none (.node none (.node none .nil (.node none .nil (.node (some (Uu P)) .nil .nil))) (.node none .nil (.node none (.node none .nil (.node (some (WM P)) .nil .nil)) (.node none (.node (some (UL P)) .nil .nil) .nil)))) .nil) (.node none (.node none (.node none (.node (some (U9 P)) .nil .nil) .nil) (.node none (.node (some (Tu P)) .nil (.node (some (Up P)) .nil .nil)) (.node none (.node none (.node (some (Wb P)) .nil .nil) .nil) .nil))) (.node none (.node none .nil (.node none (.node none .nil (.node (some (VN P)) .nil .nil)) .nil)) (.node none (.node none .nil (.node (some (TG P)) .nil .nil)) .nil))))) (.node none (.node none (.node none (.node none (.node none (.node none (.node none .nil (.node (some (Vw P)) .nil .nil)) .nil) .nil) (.node none (.node none .nil (.node none (.node (some (VP P)) .nil .nil) .nil)) .nil)) (.node none (.node none .nil (.node none (.node none .nil (.node (some (VH P)) .nil .nil)) .nil)) .nil)) (.node none (.node none (.node none (.node none (.node none .nil (.node (some (WW P)) .nil .nil)) .nil) (.node none .nil (.node (some (Uh P)) .nil .nil))) (.node none (.node (some (Vr P)) (.node none .nil (.node (some (VJ P)) .nil .nil)) .nil) .nil)) (.node none .nil (.node none (.node none (.node none .nil (.node (some (Xb P)) .nil .nil)) .nil) .nil)))) (.node none (.node none (.node none (.node none .nil (.node (some (Tc P)) (.node none .nil (.node (some (Wa P)) .nil .nil)) .nil)) (.node none (.node none (.node none .nil (.node (some (Um P)) .nil .nil)) .nil) (.node none (.node none (.node (some (SN P)) .nil .nil) .nil) (.node none (.node (some (Vn P)) .nil .nil) .nil)))) (.node none .nil (.node none (.node none (.node none .nil (.node (some (Wu P)) .nil .nil)) (.node (some (Uq P)) .nil .nil)) .nil))) (.node none (.node none (.node none .nil (.node none (.node none .nil (.node (some (Ux P)) .nil .nil)) .nil)) .nil) (.node none (.node none .nil (.node none .nil (.node none (.node (some (Ui P)) .nil .nil) .nil))) (.node (some (Tt P)) .nil .nil)))))) (.node (some (k2 P)) (.node none (.node none (.node none .nil (.node none .nil (.node (some (Wf P)) .nil .nil))) (.node none (.node none (.node none (.node none (.node none .nil (.node (some (Wi P)) .nil .nil)) .nil) .nil) (.node none (.node none (.node none .nil (.node (some (VF P)) .nil .nil)) .nil) (.node none (.node none .nil (.node (some (Wo P)) .nil .nil)) .nil))) .nil)) (.node none (.node none (.node none (.node none .nil (.node (some (Wq P)) .nil .nil)) (.node none .nil (.node none .nil (.node none (.node (some (VK P)) .nil .nil) .nil)))) (.node none .nil (.node none (.node none (.node none .nil (.node (some (TP P)) .nil .nil)) .nil) .nil))) (.node none (.node none (.node none (.node (some (Ul P)) .nil .nil) (.node none (.node none .nil (.node (some (W5 P)) .nil .nil)) .nil)) (.node none .nil (.node none (.node none (.node (some (Uc P)) .nil .nil) .nil) .nil))) (.node none (.node none .nil (.node none (.node none .nil (.node (some (VL P)) .nil .nil)) (.node none (.node (some (V8 P)) .nil .nil) .nil))) (.node none (.node none .nil (.node (some (S6 P)) .nil .nil)) .nil))))) (.node none (.node none (.node none (.node none (.node none (.node none (.node none .nil (.node (some (WD P)) .nil .nil)) .nil) (.node none .nil (.node (some (T3 P)) .nil .nil))) (.node none (.node none .nil (.node none (.node (some (WN P)) .nil .nil) .nil)) (.node none (.node none .nil (.node (some (W6 P)) .nil .nil)) .nil))) (.node none (.node none .nil (.node none (.node none .nil (.node (some (Xa P)) .nil .nil)) .nil)) .nil)) (.node none (.node none (.node none .nil (.node none .nil (.node (some (Tr P)) .nil .nil))) (.node none (.node (some (WY P)) .nil .nil) .nil)) (.node none .nil (.node none (.node none (.node none .nil (.node (some (WQ P)) .nil .nil)) .nil) .nil)))) (.node none (.node none (.node none (.node none .nil (.node none (.node none .nil (.node (some (TJ P)) .nil .nil)) .nil)) (.node none (.node (some (W9 P)) (.node none .nil (.node (some (T9 P)) .nil .nil)) .nil) .nil)) (.node none (.node none .nil (.node none (.node none .nil (.node (some (S9 P)) .nil .nil)) (.node none (.node (some (VD P)) .nil .nil) .nil))) (.node (some (U7 P)) .nil .nil))) (.node none (.node none .nil (.node none (.node none (.node none .nil (.node (some (Vi P)) .nil .nil)) .nil) .nil)) (.node none (.node none (.node none (.node none .nil (.node (some (Wc P)) .nil .nil)) .nil) .nil) (.node (some (Wv P)) (.node none (.node none .nil (.node (some (W2 P)) .nil .nil)) .nil) .nil)))))))
noncomputable def yc:List Str:=[nm [95,95,110,97,109,101,95,95],nm [95,95,100,111,99,95,95],nm [95,95,112,97,99,107,97,103,101,95,95],nm [95,95,108,111,97,100,101,114,95,95],nm [95,95,115,112,101,99,95,95],nm [95,95,97,110,110,111,116,97,116,105,111,110,115,95,95],nm [95,95,98,117,105,108,116,105,110,115,95,95],nm [95,95,102,105,108,101,95,95],nm [95,95,99,97,99,104,101,100,95,95],nm [100,101,113,117,101],nm [95,119,97,108,108],nm [95,112,108,97,105,110,95,110,97,109,101],nm [65,66,67,77,101,116,97],nm [95,65,66,67,76,105,107,101],nm [95,97,98,99,95,112,108,97,105,110,95,109,101,116,97],nm [102,115,112,97,116,104],nm [115,112,108,105,116,114,111,111,116],nm [110,111,114,109,112,97,116,104],nm [95,119,104,101,110,99,101],nm [95,105,110,100,101,120],nm [85,110,115,117,112,112,111,114,116,101,100,79,112,101,114,97,116,105,111,110],nm [73,79,66,97,115,101],nm [66,117,102,102,101,114,101,100,73,79,66,97,115,101],nm [84,101,120,116,73,79,66,97,115,101],nm [66,121,116,101,115,73,79],nm [83,116,114,105,110,103,73,79],nm [95,107,105,110,100],nm [95,102,115,112,97,116,104],nm [95,99,104,101,99,107,95,97,114,103,95,116,121,112,101,115],nm [105,115,97,98,115],nm [106,111,105,110],nm [100,105,114,110,97,109,101],nm [115,104,108,101,120],nm [115,112,108,105,116],nm [95,108,97,119,95,119,111,114,100,115],nm [95,108,97,119,95,105,116,101,109,115],nm [95,108,97,119,95,108,101,102,116],nm [95,108,97,119,95,114,111,111,116],nm [95,108,97,119,95,112,108,97,99,101],nm [95,108,97,119,95,112,108,97,105,110],nm [95,108,97,119,95,116,101,120,116,115],nm [95,108,97,119,95,116,111,108,100],nm [108,97,119]]
noncomputable def Jy:List Nat:=[0,2,3,111,112,118,119,125,126,139,140,166,167,169,170,171,196,197,427,437,443,444,450,451,457,458,613,619,620,673,674,726,732,733,739,740,741,769,770,776,777,798,799,805,806,808,809,814,820,821,825,826,830,831,837,838,844,845,849,850,854,855,859,860,866,867,871,872]
noncomputable abbrev YB:Code→Sem Fin:=Fast.tw11892475500146522536 Fast.tw14364793385576792824
noncomputable abbrev X8 (p:Program)(w:World):SharedT→Thread→Option (SharedT×Thread):=Fast.tw10156331382660048174 YB p w
noncomputable def s0 (p:Program):SharedT:=⟨.nil,0,(start (opening p)).1.heap.life,(start (opening p)).1.gens,(start (opening p)).1.drawn,(start (opening p)).1.toks,(start (opening p)).1.os⟩
noncomputable def Kp (p:Program)(w:World)(M:Nat):Option (Shared×SharedT×Thread):=
 match K7 (X8 (opening p) w) (Fast.tw14289696077712309145 p) 828 (s0 p) (start (opening p)).2 with
 |some r=>match KJ (X8 p w) (CN r.1.heap.objs.size (Fast.tw8920871248978507458 r.1.heap mainGlobals "__annotations__")) M ⟨r.2,r.1.heap.objs.size,r.1.heap.life,r.1.gens,r.1.drawn,r.1.toks,r.1.os⟩ (topStub p) with
  |some x=>some (r.1,x)
  |none=>none
 |none=>none
noncomputable def q0:Program:={zE with main:={zE.main with body:=[kT 42]}}
noncomputable def Jx (s:Shared):List (Option Obj):=Jy.map s.heap.get?
noncomputable def J8 (w:World):List (Option Obj):=(Kl w.params).map fun p=>some p.2
noncomputable def J5 (p q:Program)(loose:List Str){α:Type}(Yf:Shared→α)(r:Shared×SharedT×Thread):=
 (((r.1.heap.isNs mainGlobals&&r.1.gens.size==0),through r.2.2,(staticsOk (Fast.tw5923862056798008813 p.main.body) r.1.heap r.2.1.abs.heap&&namesBound p r.2.1.abs.heap&&gensDone r.2.1.abs&&laidKept r.1.heap r.2.1.abs.heap)),
  Fast.tw4187177175401517315 q loose (Fast.tw5923862056798008813 p.main.body) (fun _=>true) true r.2.1.abs,Yf r.2.1.abs)
theorem I8 (w:World):(Kp zE w 5711).map (J5 zE q0 yc Jx)=some ((true,true,true),openGood q0 yc,J8 w):=by kernel_rfl
theorem uN {p:Program}{w:World}{n:Nat}{s:SharedT}{t:Thread}{fence:Shared→Option Shared}{s':Shared}{T:BT}(h:K7 (stepT (denote treeTable) p w) fence n s t=some (s',T)):
  ∃s1,importEnds treeTable p w (n+1) s.abs t=some s1∧fence s1=some s'∧absHeap T s'.heap.objs.size s'.heap.life=s'.heap:=by
 unfold K7 at h
 cases h1:KJ (stepT (denote treeTable) p w) Vx n s t with
 |none=>rw[h1] at h;cases h
 |some r=>
  rw[h1] at h
  dsimp only at h
  cases h2:endI r.2 with
  |false=>rw[h2] at h;cases h
  |true=>
   rw[h2] at h
   dsimp only at h
   cases h3:fence r.1.abs with
   |none=>rw[h3] at h;cases h
   |some s2=>
    rw[h3] at h
    dsimp only at h
    cases h4:S7 s2.heap.objs.toList 0 .nil with
    |none=>rw[h4] at h;cases h
    |some T2=>
     rw[h4] at h
     cases h
     refine⟨_,Ew (s':=r.1) (t':=r.2) h1 h2,h3,?_⟩
     have:=Kq (life:=s'.heap.life) h4
     rw[Nat.zero_add,Array.length_toList] at this
     rw[this]
     show(⟨(absHeap .nil 0 s'.heap.life).objs++s'.heap.objs.toList.toArray,s'.heap.life⟩:Heap)=s'.heap
     have e:(absHeap .nil 0 s'.heap.life).objs=#[]:=rfl
     rw[e]
     simp
theorem Q0 (p:Program):(s0 p).abs=(start (opening p)).1:=rfl
theorem J1 {p q:Program}{loose:List Str}{α:Type}{Yf:Shared→α}{Ya:World→α}{M k1 k2 N:Nat}(h:∀w,(Kp p w M).map (J5 p q loose Yf)=some ((true,true,true),openGood q loose,Ya w))(e1:828+1+k1=N)(e2:M+1+k2=N):LeftO p q loose (fun _=>true) Yf Ya N:=fun w=>by
 refine aL (Option.map_eq_some_iff.mp (h w)) fun r hr hl=>?_
 unfold J5 at hl
 simp only[Prod.mk.injEq] at hl
 refine aK hl fun ep5 l4 l5=>?_;obtain⟨l1,l2,l3⟩:=ep5
 unfold Kp X8 YB at hr
 rw[←Fast.te10156331382660048174,←Fast.te11892475500146522536,←Fast.te14364793385576792824,←Fast.te14289696077712309145,←Fast.te8920871248978507458] at hr
 rw[←Fast.te5923862056798008813] at l3 l4
 rw[←Fast.te4187177175401517315] at l4
 cases h1:K7 (stepT (denote treeTable) (opening p) w) (fenceModules? p) 828 (s0 p) (start (opening p)).2 with
 |none=>rw[h1] at hr;cases hr
 |some r0=>
  rw[h1] at hr
  dsimp only at hr
  cases h2:KJ (stepT (denote treeTable) p w) (CN r0.1.heap.objs.size (Heap.nsMap r0.1.heap mainGlobals "__annotations__")) M ⟨r0.2,r0.1.heap.objs.size,r0.1.heap.life,r0.1.gens,r0.1.drawn,r0.1.toks,r0.1.os⟩ (topStub p) with
  |none=>rw[h2] at hr;cases hr
  |some x=>
   rw[h2] at hr
   cases hr
   refine cj (uN (s':=r0.1) (T:=r0.2) h1) fun s1 m1 m2 m3=>?_
   have g1:fencedOpening treeTable p w N=some r0.1:=by
    unfold fencedOpening
    rw[Q0] at m1
    have:=importEnds_mono k1 _ _ _ _ m1
    rw[e1] at this
    rw[this]
    exact m2
   have g2:=Fy (s':=x.1) (t':=x.2) h2 l2
   have e:SharedT.abs ⟨r0.2,r0.1.heap.objs.size,r0.1.heap.life,r0.1.gens,r0.1.drawn,r0.1.toks,r0.1.os⟩=r0.1:=by
    show(⟨absHeap r0.2 r0.1.heap.objs.size r0.1.heap.life,_,_,_,_⟩:Shared)=_
    rw[m3]
   rw[e] at g2
   have g3:=topRun_mono k2 _ _ _ _ g2
   rw[e2] at g3
   have g4:topFrom treeTable p w N r0.1=some x.1.abs:=by
    unfold topFrom
    rw[l1,g3]
    show(match staticsOk (importedModules p.main.body) r0.1.heap x.1.abs.heap&&namesBound p x.1.abs.heap&&gensDone x.1.abs&&laidKept r0.1.heap x.1.abs.heap with|true=>_|false=>_)=_
    rw[l3]
   unfold openEnds
   rw[g1]
   show(topFrom treeTable p w N r0.1).map _=_
   rw[g4]
   exact congrArg some (Prod.ext l4 l5)
theorem R4:LeftO zE q0 yc (fun _=>true) Jx J8 6000:=J1 I8 (k1:=5171) (k2:=288) rfl rfl
section
open PyProof.Rows
noncomputable def wC:OpenLaw:={prog:=zE,name:=nm [108,97,119],about:=[nm [110,111,114,109,112,97,116,104]],foot:=9,most:=some 63,bound:=none,writes:=false}
theorem Rq:PySem.Challenge.rw_mj0282_01=wC:=by kernel_rfl
theorem Rc:OpenLaw.wellSaid wC=true:=by
 rw[Fast.te9446332074065402090]
 kernel_rfl
noncomputable def dL:DefRec:=match defOf q0 (nm [108,97,119]) with
 |some x=>x.1
 |none=>⟨nm [],default,[],default,default⟩
theorem Qv:defOf q0 wC.row.name=some (dL,[]):=by kernel_rfl
theorem Q9:wC.row.prog.theDef wC.row.name=some (dL.params,dL.body,dL.scope):=by kernel_rfl
theorem Ub:kwWritten? dL.params.kwonlyargs dL.params.kw_defaults=some []:=by kernel_rfl
theorem XS:(chainsOk q0&&opensWell wC.row.prog&&(frees wC.row.toRowW&&wC.row.within.isEmpty))=true:=by kernel_rfl
theorem QJ:wC.row.prog.bare:=⟨by kernel_rfl,by kernel_rfl,by kernel_rfl,by kernel_rfl,by kernel_rfl,by kernel_rfl⟩
theorem Qi:wC.row.toRowW.promised:=⟨[ofPy (PyData.list [])],by kernel_rfl,by kernel_rfl⟩
theorem QD:wC.row.records=[]:=by kernel_rfl
theorem Yq:(!wC.row.writes||List.isEmpty wC.row.records)=true:=by kernel_rfl
end
section
open Sem (wp)
theorem ue {n:Nat}{s:String}(h:PySem.code s=n){id:String}(e:S.eqLit n id=true):id=s:=by
 have q:S.codeS id=n:=Nat.eq_of_beq_eq_true e
 refine PySem.code_inj _ _ ?_
 rw[S.code_S id,q,h]
theorem Ie {n:Nat}{s:String}(h:PySem.code s=n){id:String}(e:id=s):S.eqLit n id=true:=by
 subst e
 show Nat.beq (S.codeS id) n=true
 rw[←S.code_S,h];exact Nat.beq_refl n
noncomputable def Ref {α:Type}(t t':Sem α):Prop:=∀(M:Model) (Γ:Ctx) (Q:α→Pos→Shared→Prop) (E:Value→Pos→Shared→Prop) (p:Pos) (s:Shared),Γ.units<cLine→wp M Γ t' Q E p s→wp M Γ t Q E p s
section
variable {α β:Type}
theorem Ref.refl (t:Sem α):Ref t t:=fun _ _ _ _ _ _ _ h=>h
theorem Ref.bind {m m':Sem α}{f f':α→Sem β}(h:Ref m m')(hf:∀a,Ref (f a) (f' a)):Ref (m>>=f) (m'>>=f'):=fun M Γ Q E p s hu x=>by
 rw[Sem.wp_bind'] at x ⊢
 exact h M Γ _ E p s hu (Sem.wp_mono M Γ m' (fun a p' s' y=>hf a M Γ Q E p' s' hu y) (fun _ _ _ y=>y) p s x)
theorem Ref.holding {l:List Value}{m m':Sem α}(h:Ref m m'):Ref (holding l m) m':=fun M Γ Q E p s hu x=>by
 rw[Sem.wp_holding]
 exact h M Γ Q E p s hu x
theorem Ref.at {m m':Sem α}{pos:Pos}(h:Ref m m'):Ref (standAt pos>>=fun _=>m) (.at pos fun _=>m'):=fun M Γ Q E p s hu x=>by
 rw[Sem.wp_bind']
 exact h M Γ Q E pos s hu x
theorem xZ:∀(l:List Value) (keep:List Value) (M:Model) (Γ:Ctx) (Q:Unit→Pos→Shared→Prop) (E:Value→Pos→Shared→Prop) (p:Pos) (s:Shared),Q () p s→wp M Γ (release.go keep l) Q E p s
 |[],_,_,_,_,_,_,_,h=>h
 |[_],_,_,_,_,_,_,_,h=>h
 |_::b::rest,keep,M,Γ,Q,E,p,s,h=>by
  show wp M Γ (PySem.holding ((b::rest)++keep) point>>=fun _=>release.go keep (b::rest)) Q E p s
  rw[Sem.wp_bind',Sem.wp_holding]
  show wp M Γ (release.go keep (b::rest)) Q E p s
  exact xZ (b::rest) keep M Γ Q E p s h
theorem Ref.operate {l:List Value}{m m':Sem Value}(h:Ref m m'):Ref (operate l m) m':=fun M Γ Q E p s hu x=>by
 unfold PySem.operate
 rw[Sem.wp_bind',Sem.wp_holding]
 refine h M Γ _ E p s hu (Sem.wp_mono M Γ m' (fun a p' s' y=>?_) (fun _ _ _ y=>y) p s x)
 rw[Sem.wp_bind']
 exact xZ _ _ M Γ _ E p' s' y
end
structure Ops where
 bnd:{α β:Type}→Sem α→(α→Sem β)→Sem β
 on:{α:Type}→Sem α→(Value→Sem Unit)→Sem α
 ev:Expr→Env→Sem Value
 tr:Expr→Env→Sem Value→Sem Bool
 ex:List Stmt→Env→Sem Flow
 ty:Value→Sem Value
 tt:Value→Sem Bool
 isL:Value→Bool
 cl:Value→List Value→List (Str×Value)→Sem Value
 cm:CmpOp→Value→Value→Sem Value
 nx:Value→Sem (Option Value)
 lt:Expr→Value→Value→Sem Unit
 as:Expr→Env→Value→Sem Unit
structure OpsOk (o:Ops):Prop where
 bnd:∀{α β:Type},@Ops.bnd o α β=@Sem.bind α β
 on:∀{α:Type},@Ops.on o α=@Sem.onRaise α
 ev:o.ev=eval
 tr:o.tr=PySem.isTrue
 ex:o.ex=execs
 ty:o.ty=typeOf
 tt:o.tt=truthy
 isL:∀v,o.isL v=true→v=.type "list"
 cl:o.cl=fun f a k=>call f a k
 cm:o.cm=compareOp
 nx:o.nx=pyNext
 lt:o.lt=letOwnedTupleGo
 as:o.as=assign
section
variable (o:Ops)
noncomputable def Jz:CmpOp→Option String
 |.Eq=>some "list.__eq__"
 |.NotEq=>some "list.__ne__"
 |_=>none
noncomputable def Hi (op:CmpOp)(a b:Value):Sem Value:=match a,b with
 |.ref _,.ref _=>o.bnd (o.ty a) fun ta=>match o.isL ta with
  |false=>.unsupported "Mine.cmp"
  |true=>o.bnd (o.ty b) fun tb=>match o.isL tb with
   |false=>.unsupported "Mine.cmp"
   |true=>match Jz op with
    |none=>.unsupported "Mine.cmp"
    |some id=>o.bnd (o.cl (.builtin id) [a,b] []) fun v=>match v with
     |.bool x=>.pure (.bool x)
     |_=>.unsupported "Mine.cmp"
 |_,_=>o.cm op a b
noncomputable def HS (e:Expr)(env:Env):Sem Bool:=match e with
 |.Compare l ops rs pos=>match ops,rs with
  |[op],[r]=>match op with
   |.Eq|.NotEq=>o.bnd (o.ev l env) fun a=>o.bnd (o.ev r env) fun b=>.at pos fun _=>o.bnd (Hi o op a b) fun c=>o.tt c
   |_=>o.tr e env (o.ev e env)
  |_,_=>o.tr e env (o.ev e env)
 |_=>o.tr e env (o.ev e env)
noncomputable def Kz (e:Expr)(env:Env):Sem Bool:=match e with
 |.BoolOp op vs _=>match vs with
  |[a,b]=>o.bnd (HS o a env) fun x=>match op,x with
   |.And,false=>.pure false
   |.Or,true=>.pure true
   |_,_=>HS o b env
  |_=>o.tr e env (o.ev e env)
 |_=>HS o e env
noncomputable def Sw (e:Expr)(env:Env):Sem Value:=match e with
 |.Compare l ops rs pos=>match ops,rs with
  |[op],[r]=>match op with
   |.Eq|.NotEq=>o.bnd (o.ev l env) fun a=>o.bnd (o.ev r env) fun b=>.at pos fun _=>Hi o op a b
   |_=>o.ev e env
  |_,_=>o.ev e env
 |_=>o.ev e env
noncomputable def ev1 (e:Expr)(env:Env):Sem Value:=match e with
 |.IfExp t b f _=>o.bnd (Kz o t env) fun x=>match x with
  |true=>o.ev b env
  |false=>o.ev f env
 |.BoolOp op vs pos=>match op,vs with
  |.And,[a,b]=>o.bnd (Sw o a env) fun v=>.at pos fun _=>o.bnd (o.tt v) fun x=>match x with
   |false=>.pure v
   |true=>Sw o b env
  |_,_=>o.ev e env
 |_=>Sw o e env
noncomputable def Vg (s:Stmt)(env:Env):Sem Flow:=match s with
 |.If t b f pos=>.at pos fun _=>o.bnd (Kz o t env) fun x=>match x with
  |true=>o.ex b env
  |false=>o.ex f env
 |.Return e pos=>match e with
  |some e=>.at pos fun _=>o.bnd (ev1 o e env) fun v=>.pure (.ret v)
  |none=>o.ex [s] env
 |_=>o.ex [s] env
noncomputable def Sx:List Stmt→Env→Sem Flow
 |[],_=>.pure .next
 |s::rest,env=>o.bnd (Vg o s env) fun f=>match f with
  |.next=>Sx rest env
  |f=>.pure f
noncomputable def forR (target:Expr)(it:Value)(body orelse:List Stmt)(env:Env):Sem Fin:=
 .at target.pos fun _=>o.bnd (o.on (o.nx it) (fun _=>standAt {target.pos with line:=0})) fun r=>match r with
  |none=>.pure (.again (.block orelse env))
  |some v=>o.bnd (o.lt target it v) fun _=>o.bnd (o.as target env v) fun _=>o.bnd (Sx o body env) fun f=>match f with
   |.next|.cont=>.pure (.again (.forLoop target it body orelse env))
   |.brk=>.pure (.done .next)
   |.ret v=>.pure (.done (.ret v))
noncomputable def Oz (e:Expr)(depth:Nat)(it acc:Value)(env:Env):Sem Fin:=match e with
 |.ListComp elt gs _ _=>match gs,depth with
  |[g],0=>match g.is_async,g.ifs with
   |0,[]=>.at g.iter.pos fun _=>o.bnd (o.nx it) fun r=>match r with
    |none=>.pure (.done .next)
    |some v=>o.bnd (o.lt g.target it v) fun _=>o.bnd (o.as g.target env v) fun _=>o.bnd (ev1 o elt env) fun x=>o.bnd (o.cl (.builtin "list.append") [acc,x] []) fun _=>.pure (.again (.compLoop e depth it acc env))
   |_,_=>.unsupported "Mine.comp"
  |_,_=>.unsupported "Mine.comp"
 |_=>.unsupported "Mine.comp"
noncomputable def QM (body:List Stmt)(env:Env):Sem Fin:=
 .point [] fun _=>o.bnd (Sx o body env) fun f=>.pure (.done (.ret (match f with|.ret v=>v|_=>.none)))
end
noncomputable def mL (body:List Stmt)(env:Env):Sem Fin:=do
 point
 match←execs body env with
 |.ret v=>ret v
 |_=>ret .none
section
variable {o:Ops}
theorem Ref.wrong {α:Type}(t:Sem α)(x:String):Ref t (.unsupported x):=fun _ _ _ _ _ _ _ h=>by
 rw[Sem.wp] at h
 exact h.elim
theorem uo {M:Model}{Γ:Ctx}{x:Addr}{Q:Value→Pos→Shared→Prop}{E:Value→Pos→Shared→Prop}{p:Pos}{s:Shared}:wp M Γ (typeOf (.ref x)) Q E p s↔∃ob,s.heap.get? x=some ob∧Q ob.cls p s:=by
 show wp M Γ (.load x _ fun ob=>.pure ob.cls) Q E p s↔_
 rw[Sem.wp_load]
 rfl
theorem Gz {M:Model}{Γ:Ctx}{x:Addr}{name:Str}{id:String}(h:typeLookup (.type "list") name=pure (some (.builtin id))){Q:Option Value→Pos→Shared→Prop}{E:Value→Pos→Shared→Prop}{p:Pos}{s:Shared}{ob:Obj}(ho:s.heap.get? x=some ob)(hc:ob.cls=.type "list")(q:Q (some (.builtin id)) p s):wp M Γ (specialOf (.ref x) name) Q E p s:=by
 unfold specialOf
 rw[Sem.wp_bind',uo]
 refine⟨ob,ho,?_⟩
 rw[hc,h]
 exact q
theorem RN {M:Model}{Γ:Ctx}{x:Addr}{v:Value}{name:Str}{id:String}(hs:Slot "list" name id){Q:Option Value→Pos→Shared→Prop}{E:Value→Pos→Shared→Prop}{p:Pos}{s:Shared}{ob:Obj}(ho:s.heap.get? x=some ob)(hc:ob.cls=.type "list")(q:wp M Γ (call (.builtin id) [.ref x,v] []) (fun r p' s'=>(∃b,r=.bool b)∧Q (some r) p' s') E p s):wp M Γ (tryCompare (.ref x) name v) Q E p s:=by
 unfold tryCompare callSpecialIfBound? bindSpecialIfBound?
 rw[Sem.wp_bind',Sem.wp_holding,Sem.wp_bind',Sem.wp_bind']
 refine Gz hs.lookup ho hc ?_
 have fin:wp M Γ (call (.builtin id) ([.ref x]++[v])>>=fun r=>pure (some r):Sem (Option Value)) (fun r p' s'=>wp M Γ (match r with|some .notImplemented|none=>pure none|some v=>pure (some v):Sem (Option Value)) Q E p' s') E p s:=by
  rw[Sem.wp_bind']
  refine Sem.wp_mono M Γ _ (fun r p' s' y=>?_) (fun _ _ _ y=>y) p s q
  obtain⟨⟨b,rfl⟩,y⟩:=y
  exact y
 simp only[hs.bind]
 rw[Sem.wp_bind']
 show wp M Γ (ite _ _ _) _ _ _ _
 split
 ·exact fin
 ·rw[Sem.wp_tryCatch]
  exact fin
theorem Gp (O:OpsOk o)(op:CmpOp)(a b:Value)(hop:op=.Eq∨op=.NotEq):Ref (compareOp op a b) (Hi o op a b):=by
 have dfl:∀a b,Ref (compareOp op a b) (o.cm op a b):=fun a b=>by rw[O.cm];exact Ref.refl _
 cases a with
 |ref x=>
  cases b with
  |ref y=>
   intro M Γ Q E p s hu h
   unfold Hi at h
   simp only[O.bnd] at h
   rw[Sem.wp_bind,O.ty,uo] at h
   refine aL h fun ox hox h=>?_
   split at h
   ·exact(Ref.wrong (compareOp op (.ref x) (.ref y)) _ M Γ Q E p s hu h)
   rename_i hlx
   rw[Sem.wp_bind,uo] at h
   refine aL h fun oy hoy h=>?_
   split at h
   ·exact(Ref.wrong (compareOp op (.ref x) (.ref y)) _ M Γ Q E p s hu h)
   rename_i hly
   have hcx:=O.isL _ hlx
   have hcy:=O.isL _ hly
   have key:∀id,Slot "list" (cmpInfo op).2.1 id→wp M Γ (call (.builtin id) [.ref x,.ref y] []) (fun r p' s'=>wp M Γ (match r with|.bool z=>.pure (.bool z)|_=>.unsupported "Mine.cmp") Q E p' s') E p s→wp M Γ (richCompare op (.ref x) (.ref y)) Q E p s:=by
    intro id hs h
    unfold richCompare
    rw[Sem.wp_holding,Sem.wp_bind']
    refine Sem.wp_cRoomFor _ _ hu ?_
    have hone:oneThing? op (.ref x) (.ref y)=none:=rfl
    simp only[hone]
    rw[Sem.wp_bind',uo]
    refine⟨ox,hox,?_⟩
    rw[Sem.wp_bind',uo]
    refine⟨oy,hoy,?_⟩
    rw[hcx,hcy]
    simp only[bne_self_eq_false,Bool.false_eq_true,if_false,pure_bind]
    rw[Sem.wp_bind']
    refine RN hs hox hcx (Sem.wp_mono M Γ _ (fun r p' s' y=>?_) (fun _ _ _ y=>y) p s h)
    cases r with
    |bool b=>exact⟨⟨b,rfl⟩,y⟩
    |_=>rw[Sem.wp] at y;exact y.elim
   rcases hop with rfl|rfl
   ·rw[show Jz CmpOp.Eq=some "list.__eq__" from rfl] at h
    simp only at h
    rw[Sem.wp_bind,O.cl] at h
    exact key _ F.slot_list_eq h
   ·rw[show Jz CmpOp.NotEq=some "list.__ne__" from rfl] at h
    simp only at h
    rw[Sem.wp_bind,O.cl] at h
    exact key _ F.slot_list_ne h
  |_=>exact dfl _ _
 |_=>exact dfl _ _
theorem xm {op:CmpOp}(hop:op=.Eq∨op=.NotEq)(e:Expr)(t:Sem Value):markedEach [op] [e] [t]=[t]:=by
 have:behindInMarks op e=false:=by
  rcases hop with rfl|rfl<;>cases e<;>first|rfl|(show(_&&(false||false)&&_)=false;simp)
 show [markedBehindIn op e t]=_
 unfold markedBehindIn
 rw[this]
theorem Af (O:OpsOk o)(e:Expr)(env:Env):Ref (PySem.isTrue e env (eval e env)) (HS o e env):=by
 have dfl:∀e,Ref (PySem.isTrue e env (eval e env)) (o.tr e env (o.ev e env)):=fun e=>by rw[O.tr,O.ev];exact Ref.refl _
 have main:∀l op r pos,(op=.Eq∨op=.NotEq)→Ref (PySem.isTrue (.Compare l [op] [r] pos) env (eval (.Compare l [op] [r] pos) env)) (o.bnd (o.ev l env) fun a=>o.bnd (o.ev r env) fun b=>.at pos fun _=>o.bnd (Hi o op a b) fun c=>o.tt c):=fun l op r pos hop=>by
  simp only[O.bnd];rw[O.ev,O.tt]
  show Ref (eval l env>>=fun a=>testChain pos a [op] (markedEach [op] [r] [eval r env])) (eval l env>>=_)
  refine(Ref.refl _).bind fun a=>?_
  rw[xm hop]
  show Ref (PySem.holding [a] (eval r env)>>=fun rv=>standAt pos>>=fun _=>PySem.operate [a,rv] (compareOp op a rv)>>=fun c=>PySem.holding [c] (truthy c)) (eval r env>>=_)
  refine(Ref.refl _).holding.bind fun b=>Ref.at ?_
  exact(Gp O op a b hop).operate.bind fun c=>(Ref.refl _).holding
 cases e with
 |Compare l ops rs pos=>
  cases ops with
  |nil=>exact dfl _
  |cons op t=>cases t with
   |cons _ _=>exact dfl _
   |nil=>cases rs with
    |nil=>exact dfl _
    |cons r t=>cases t with
     |cons _ _=>exact dfl _
     |nil=>cases op with
      |Eq=>exact main _ _ _ _ (.inl rfl)
      |NotEq=>exact main _ _ _ _ (.inr rfl)
      |_=>exact dfl _
 |_=>exact dfl _
theorem Fg (O:OpsOk o)(e:Expr)(env:Env):Ref (PySem.isTrue e env (eval e env)) (Kz o e env):=by
 have dfl:∀e,Ref (PySem.isTrue e env (eval e env)) (o.tr e env (o.ev e env)):=fun e=>by rw[O.tr,O.ev];exact Ref.refl _
 have main:∀op a b pos,Ref (PySem.isTrue (.BoolOp op [a,b] pos) env (eval (.BoolOp op [a,b] pos) env)) (o.bnd (HS o a env) fun x=>match op,x with
   |.And,false=>.pure false
   |.Or,true=>.pure true
   |_,_=>HS o b env):=fun op a b pos=>by
  simp only[O.bnd]
  have e1:PySem.isTrue (.BoolOp op [a,b] pos) env (eval (.BoolOp op [a,b] pos) env)=(PySem.isTrue a env (eval a env)>>=fun x=>match op,x with
    |.And,false=>pure false
    |.Or,true=>pure true
    |_,_=>PySem.isTrue b env (eval b env)):=by
   refine congrArg (PySem.isTrue a env (eval a env) >>= ·) (funext fun x=>?_)
   have e2:∀c:Unit,(PySem.isTrue b env (eval b env)>>=fun y=>match op,y with
    |.And,false=>pure false
    |.Or,true=>pure true
    |_,_=>allTrue op [] env)=PySem.isTrue b env (eval b env):=fun c:Unit=>by
    conv=>rhs;rw[←bind_pure (PySem.isTrue b env (eval b env))]
    refine congrArg (PySem.isTrue b env (eval b env) >>= ·) (funext fun y=>?_)
    cases op<;>cases y<;>rfl
   cases op<;>cases x<;>first|rfl|exact e2 ()
  rw[e1]
  refine(Af O a env).bind fun x=>?_
  cases op<;>cases x<;>first|exact Ref.refl _|exact Af O b env
 cases e with
 |BoolOp op vs pos=>
  cases vs with
  |nil=>exact dfl _
  |cons a t=>cases t with
   |nil=>exact dfl _
   |cons b t=>cases t with
    |nil=>exact main _ _ _ _
    |cons _ _=>exact dfl _
 |_=>exact Af O _ env
theorem DN (O:OpsOk o)(e:Expr)(env:Env):Ref (eval e env) (Sw o e env):=by
 have dfl:∀e,Ref (eval e env) (o.ev e env):=fun e=>by rw[O.ev];exact Ref.refl _
 have main:∀l op r pos,(op=.Eq∨op=.NotEq)→Ref (eval (.Compare l [op] [r] pos) env) (o.bnd (o.ev l env) fun a=>o.bnd (o.ev r env) fun b=>.at pos fun _=>Hi o op a b):=fun l op r pos hop=>by
  simp only[O.bnd];rw[O.ev]
  show Ref (eval l env>>=fun a=>compareChain pos a [op] (markedEach [op] [r] [eval r env])) (eval l env>>=_)
  refine(Ref.refl _).bind fun a=>?_
  rw[xm hop]
  show Ref (PySem.holding [a] (eval r env)>>=fun rv=>standAt pos>>=fun _=>PySem.operate [a,rv] (compareOp op a rv)) (eval r env>>=_)
  exact(Ref.refl _).holding.bind fun b=>Ref.at (Gp O op a b hop).operate
 cases e with
 |Compare l ops rs pos=>
  cases ops with
  |nil=>exact dfl _
  |cons op t=>cases t with
   |cons _ _=>exact dfl _
   |nil=>cases rs with
    |nil=>exact dfl _
    |cons r t=>cases t with
     |cons _ _=>exact dfl _
     |nil=>cases op with
      |Eq=>exact main _ _ _ _ (.inl rfl)
      |NotEq=>exact main _ _ _ _ (.inr rfl)
      |_=>exact dfl _
 |_=>exact dfl _
theorem KR (O:OpsOk o)(e:Expr)(env:Env):Ref (eval e env) (ev1 o e env):=by
 have dfl:∀e,Ref (eval e env) (o.ev e env):=fun e=>by rw[O.ev];exact Ref.refl _
 have m1:∀t b f pos,Ref (eval (.IfExp t b f pos) env) (o.bnd (Kz o t env) fun x=>match x with
   |true=>o.ev b env
   |false=>o.ev f env):=fun t b f pos=>by
  simp only[O.bnd];rw[O.ev]
  show Ref (PySem.isTrue t env (eval t env)>>=fun x=>if x=true then eval b env else eval f env) _
  refine(Fg O t env).bind fun x=>?_
  cases x<;>exact Ref.refl _
 have m2:∀a b pos,Ref (eval (.BoolOp .And [a,b] pos) env) (o.bnd (Sw o a env) fun v=>.at pos fun _=>o.bnd (o.tt v) fun x=>match x with
   |false=>.pure v
   |true=>Sw o b env):=fun a b pos=>by
  simp only[O.bnd];rw[O.tt]
  show Ref (eval a env>>=fun v=>standAt pos>>=fun _=>PySem.holding [v] (truthy v)>>=fun t=>match BoolOp.And,t with
   |.And,false|.Or,true=>pure v
   |_,_=>boolOp pos .And [eval b env]) _
  refine(DN O a env).bind fun v=>Ref.at ((Ref.refl _).holding.bind fun t=>?_)
  cases t with
  |false=>exact Ref.refl _
  |true=>exact DN O b env
 cases e with
 |IfExp t b f pos=>exact m1 _ _ _ _
 |BoolOp op vs pos=>
  cases op with
  |Or=>exact dfl _
  |And=>
   cases vs with
   |nil=>exact dfl _
   |cons a t=>cases t with
    |nil=>exact dfl _
    |cons b t=>cases t with
     |nil=>exact m2 _ _ _
     |cons _ _=>exact dfl _
 |_=>exact DN O _ env
theorem execs_cons (s:Stmt)(rest:List Stmt)(env:Env):execs (s::rest) env=(exec s env>>=fun x=>match x with|.next=>execs rest env|x=>pure x):=rfl
theorem vg (s:Stmt)(env:Env):execs [s] env=exec s env:=by
 rw[execs_cons]
 conv=>rhs;rw[←bind_pure (exec s env)]
 refine congrArg (exec s env >>= ·) (funext fun x=>?_)
 cases x<;>rfl
theorem Pr (O:OpsOk o)(s:Stmt)(env:Env):Ref (execs [s] env) (Vg o s env):=by
 have dfl:∀s,Ref (execs [s] env) (o.ex [s] env):=fun s=>by rw[O.ex];exact Ref.refl _
 have m1:∀t b f pos,Ref (execs [.If t b f pos] env) (.at pos fun _=>o.bnd (Kz o t env) fun x=>match x with
   |true=>o.ex b env
   |false=>o.ex f env):=fun t b f pos=>by
  simp only[O.bnd];rw[O.ex,vg]
  show Ref (standAt pos>>=fun _=>PySem.isTrue t env (eval t env)>>=fun x=>if x=true then execs b env else execs f env) _
  refine Ref.at ((Fg O t env).bind fun x=>?_)
  cases x<;>exact Ref.refl _
 have m2:∀e pos,Ref (execs [.Return (some e) pos] env) (.at pos fun _=>o.bnd (ev1 o e env) fun v=>.pure (.ret v)):=fun e pos=>by
  simp only[O.bnd];rw[vg]
  show Ref (standAt pos>>=fun _=>eval e env>>=fun v=>(pure (Flow.ret v):Sem Flow)) _
  exact Ref.at ((KR O e env).bind fun v=>Ref.refl _)
 cases s with
 |If t b f pos=>exact m1 _ _ _ _
 |Return e pos=>
  cases e with
  |none=>exact dfl _
  |some e=>exact m2 _ _
 |_=>exact dfl _
theorem Ko (O:OpsOk o):∀(l:List Stmt) (env:Env),Ref (execs l env) (Sx o l env):=fun l env=>by
 induction l with
 |nil=>exact Ref.refl _
 |cons s rest ih=>
  rw[execs_cons,←vg]
  show Ref _ (o.bnd (Vg o s env) fun f=>match f with
   |.next=>Sx o rest env
   |f=>.pure f)
  simp only[O.bnd]
  refine(Pr O s env).bind fun x=>?_
  cases x<;>first|exact ih|exact Ref.refl _
theorem Mq (O:OpsOk o)(target:Expr)(it:Value)(body orelse:List Stmt)(env:Env):Ref (forTurn target it body orelse env) (forR o target it body orelse env):=by
 unfold forTurn forR
 simp only[O.bnd];rw[O.on,O.nx,O.lt,O.as]
 refine Ref.at ((Ref.refl _).bind fun r=>?_)
 cases r with
 |none=>exact Ref.refl _
 |some v=>
  refine(Ref.refl _).bind fun _=>(Ref.refl _).bind fun _=>(Ko O body env).bind fun f=>?_
  cases f<;>exact Ref.refl _
theorem I3 (O:OpsOk o)(e:Expr)(depth:Nat)(it acc:Value)(env:Env):Ref (compTurn e depth it acc env) (Oz o e depth it acc env):=by
 have main:∀elt g sc pos,g.is_async=0→g.ifs=[]→Ref (compTurn (.ListComp elt [g] sc pos) 0 it acc env) (.at g.iter.pos fun _=>o.bnd (o.nx it) fun r=>match r with
    |none=>.pure (.done .next)
    |some v=>o.bnd (o.lt g.target it v) fun _=>o.bnd (o.as g.target env v) fun _=>o.bnd (ev1 o elt env) fun x=>o.bnd (o.cl (.builtin "list.append") [acc,x] []) fun _=>.pure (.again (.compLoop (.ListComp elt [g] sc pos) 0 it acc env))):=fun elt g sc pos ha hi=>by
  obtain⟨target,iter,ifs,ia⟩:=g
  have hi':ifs=[]:=hi
  have ha':ia=0:=ha
  subst hi' ha'
  simp only[O.bnd];rw[O.nx,O.lt,O.as,O.cl]
  show Ref (standAt iter.pos>>=fun _=>pyNext it>>=fun r=>match r with
   |none=>pure (.done .next)
   |some v=>letOwnedTupleGo target it v>>=fun _=>assign target env v>>=fun _=>(eval elt env>>=fun x=>call (.builtin "list.append") [acc,x]>>=fun _=>pure ())>>=fun _=>again (.compLoop (.ListComp elt [⟨target,iter,[],0⟩] sc pos) 0 it acc env)) _
  refine Ref.at ((Ref.refl _).bind fun r=>?_)
  cases r with
  |none=>exact Ref.refl _
  |some v=>
   refine(Ref.refl _).bind fun _=>(Ref.refl _).bind fun _=>?_
   rw[bind_assoc]
   refine(KR O elt env).bind fun x=>?_
   rw[bind_assoc]
   exact(Ref.refl _).bind fun _=>Ref.refl _
 cases e with
 |ListComp elt gs sc pos=>
  cases gs with
  |nil=>exact Ref.wrong _ _
  |cons g t=>cases t with
   |cons _ _=>exact Ref.wrong _ _
   |nil=>cases depth with
    |succ _=>exact Ref.wrong _ _
    |zero=>
     obtain⟨target,iter,ifs,ia⟩:=g
     cases ifs with
     |cons _ _=>cases ia with
      |negSucc _=>exact Ref.wrong _ _
      |ofNat n=>cases n<;>exact Ref.wrong _ _
     |nil=>cases ia with
      |negSucc _=>exact Ref.wrong _ _
      |ofNat n=>cases n with
       |zero=>exact main elt ⟨target,iter,[],0⟩ _ _ rfl rfl
       |succ _=>exact Ref.wrong _ _
 |_=>exact Ref.wrong _ _
theorem My (O:OpsOk o)(body:List Stmt)(env:Env):Ref (mL body env) (QM o body env):=by
 unfold mL QM
 simp only[O.bnd]
 intro M Γ Q E p s hu x
 rw[Sem.wp_bind']
 have x':wp M Γ (Sx o body env>>=fun f=>(.pure (.done (.ret (match f with|.ret v=>v|_=>.none))):Sem Fin)) Q E p s:=x
 exact((Ko O body env).bind (f:=fun f=>match f with|.ret v=>ret v|_=>ret .none) fun f=>by cases f<;>exact Ref.refl _) M Γ Q E p s hu x'
end
end
section
open Sem (wp)
noncomputable abbrev Led:=List (Addr×Obj)
noncomputable abbrev bw:=Addr→Obj→Prop
structure Osw where
 os:OsState
 W:Led
inductive Kn where
 |base
 |ret (c:Code) (hd:Option Value) (k:Result→Sem Fin) (κ:Kn)
 |lv (h:Value→Sem Unit) (κ:Kn)
section
variable (prog:Program) (w:World) (A₀:Around) (R₀:Result→Shared→Prop)
noncomputable def lG:Kn→Around
 |.base=>A₀
 |.ret c hd _ κ=>((lG κ).under c).mark hd
 |.lv _ κ=>lG κ
noncomputable def QE:Code→Kn→(Fin→Shared→Prop)×(Value→Shared→Prop)
 |_,.base=>(postC prog w A₀ R₀,postE R₀)
 |_,.ret c' hd k κ=>
  (postC prog w (lG A₀ (.ret c' hd k κ)) (postR prog w (lG A₀ κ) c' (QE c' κ).1 (QE c' κ).2 k),postE (postR prog w (lG A₀ κ) c' (QE c' κ).1 (QE c' κ).2 k))
 |c,.lv h κ=>((QE c κ).1,fun e s'=>wpOwn (model prog w) (lG A₀ κ) c (h e) (fun _ s''=>(QE c κ).2 e s'') (QE c κ).2 s')
noncomputable def d9 (c:Code)(κ:Kn)(t:Sem Fin)(s:Shared):Prop:=
 wpOwn (model prog w) (lG A₀ κ) c t (QE prog w A₀ R₀ c κ).1 (QE prog w A₀ R₀ c κ).2 s
end
noncomputable def wt:Code→Nat
 |.builtin id _=>cond (S.eqLit 0x73666d6d62642f6e6a626d64 id) 400 5
 |_=>5
theorem vA:PySem.code "claim.caller"=0x73666d6d62642f6e6a626d64:=by decide +kernel
theorem yF:PySem.code "list_iterator"=0x737075627366756a6075746a6d:=by decide +kernel
theorem JS:PySem.code "special-get-raises"=hq0:=by decide +kernel
theorem FN {id:String}(h:Nat.beq (S.codeS id%16777216) 6777453=false):id.startsWith "lifetime."=false:=by
 cases q:id.startsWith "lifetime." with
 |false=>rfl
 |true=>
  obtain⟨t,ht⟩:=String.startsWith_string_iff.mp q
  exfalso
  have e:id = "lifetime."++String.ofList t:=by
   have:id.toList=("lifetime."++String.ofList t).toList:=by rw[String.toList_append,←ht,String.toList_ofList (l:=t)]
   exact String.toList_inj.mp this
  have e2:S.codeS id%16777216=6777453:=by
   rw[e]
   unfold S.codeS
   rw[String.toByteArray_append]
   have e3:("lifetime.".toByteArray++(String.ofList t).toByteArray).data.toList=([108,105,102,101,116,105,109,101,46]:List UInt8)++(String.ofList t).toByteArray.data.toList:=by
    rw[ByteArray.data_append,Array.toList_append];rfl
   rw[e3]
   generalize (String.ofList t).toByteArray.data.toList=l
   have e4:∀(b:UInt8) (l:List UInt8),S.codeB (b::l)=S.codeB l*256+b.toNat+1:=fun _ _=>rfl
   simp only[List.cons_append,List.nil_append,e4]
   generalize S.codeB _=n
   have e5:∀m:Nat,(((m*256+102+1)*256+105+1)*256+108+1)%16777216=6777453:=fun m=>by lia
   exact e5 _
  rw[e2] at h
  cases h
noncomputable def YD:Code→Bool
 |.builtin id _=>!(Nat.beq (S.codeS id%16777216) 6777453)
 |_=>true
theorem QK {c:Code}(h:YD c=true):c.quiet=true:=by
 cases c with
 |builtin id args=>
  refine Code.quiet_builtin args (FN ?_)
  have:(!(Nat.beq (S.codeS id%16777216) 6777453))=true:=h
  cases q:Nat.beq (S.codeS id%16777216) 6777453 with
  |false=>rfl
  |true=>rw[q] at this;cases this
 |_=>rfl
noncomputable def Sv:Kn→Option Value
 |.base=>none
 |.ret _ hd _ κ=>match hd with
  |some e=>some e
  |none=>Sv κ
 |.lv _ κ=>Sv κ
noncomputable def mD:Kn→Nat
 |.base=>0
 |.ret c _ _ κ=>wt c+mD κ
 |.lv _ κ=>mD κ
set_option genInjectivity true in
inductive Ob where
 |nat (n:Nat)
 |code (c:Code)
 |led (l:Led)
 |tree (t:Sem Fin)
 |envs (l:Option (List Env))
noncomputable abbrev vQ:=List (Ob×Ob)
structure Ans where
 c:Code
 lim:Nat
 led:Led
 r:Result
 objs:List Obj
 new:Led
 X:bw
 ro:Led
 Z:Nat
 V:Nat
structure Jmp where
 c:Code
 lim:Nat
 led:Led
 c':Code
 objs:List Obj
 new:Led
 X:bw
 ro:Led
 Z:Nat
 V:Nat
inductive Ant where
 |nil
 |jump (m:Nat) (f:Code→Led→Nat→Nat→Jmp) (k:Code→Led→Nat→Nat→Ant)
 |cons (m:Nat) (f:Code→Led→Nat→Nat→Ans) (k:Code→Led→Nat→Nat→Ant)
 |consF (l:List Env) (m:Nat) (f:Code→Led→Nat→Nat→Ans) (k:Code→Led→Nat→Nat→Ant)
 |fix (m:Nat) (f:Led→Ans) (Z V:Nat) (k:Led→Ant)
structure Cfg where
 st:Bool→Setting
 kt:KT
 dn:Code→Sem Fin
 fn:Addr→FuncData→Args→Sem Fin
 fb:List Stmt→Env→Sem Fin
 wl:Expr→List Stmt→List Stmt→Env→Sem Fin
 fbR:List Stmt→Env→Sem Fin
 flR:Expr→Value→List Stmt→List Stmt→Env→Sem Fin
 clR:Expr→Nat→Value→Value→Env→Sem Fin
 qt:Code→Bool
 lim:Nat
 fr:Option (List Env)
structure St where
 code:Code
 kont:Kn
 dep:Nat
 tree:Sem Fin
 led:Led
 Z:Nat
 V:Nat
 ro:Led
 ant:Ant
 F:bw
 ps:vQ
inductive Res where
 |ok (σ:St)
 |bad (left tag:Nat)
noncomputable def tY:Led→Nat→Option (Addr×Obj)
 |[],_=>none
 |p::_,0=>some p
 |_::l,n+1=>tY l n
noncomputable def Di (f:Obj→Obj):Led→Nat→Led
 |[],_=>[]
 |p::l,0=>(p.1,f p.2)::l
 |p::l,n+1=>p::Di f l n
noncomputable def Dg:Led→Led→Led
 |[],x=>x
 |p::l,x=>p::Dg l x
noncomputable def di:Nat→Led→Led
 |_,[]=>[]
 |m,p::l=>match Nat.beq (m%2) 1 with
  |true=>p::di (m/2) l
  |false=>di (m/2) l
noncomputable def iQ:Nat→Led→Led
 |_,[]=>[]
 |m,p::l=>match Nat.beq (m%2) 1 with
  |true=>iQ (m/2) l
  |false=>p::iQ (m/2) l
noncomputable def uP:Nat→Led→List Obj→Led
 |_,[],_=>[]
 |m,p::l,os=>match Nat.beq (m%2) 1 with
  |true=>match os with
   |[]=>p::uP (m/2) l []
   |o::os=>(p.1,o)::uP (m/2) l os
  |false=>p::uP (m/2) l os
noncomputable def gQ:Led→List Obj→Led
 |[],_=>[]
 |p::l,[]=>p::gQ l []
 |p::l,o::os=>(p.1,o)::gQ l os
noncomputable def seek (g:Cfg)(led ro:Led)(dg:Nat)(a:Addr):Option (Obj×vQ):=match dg with
 |0=>match g.kt.get a with
  |some o=>some (o,[])
  |none=>none
 |i+1=>match (match Nat.blt i 199 with|true=>tY led i|false=>tY ro (i-199)) with
  |some p=>some (p.2,[(.nat a,.nat p.1)])
  |none=>none
noncomputable def Wy:Result→Sem Fin
 |.ok f=>.pure (.done f)
 |.error e=>.raise e
noncomputable def m6 (l:List Value):Bool:=match l with
 |.ref _::.int (.ofNat _) t::[]=>Nat.beq t 0
 |_=>false
noncomputable def gJ (d:Data):Bool:=match d with
 |.fields vs=>m6 vs.toList
 |_=>false
noncomputable def mY (c:Value)(d:Data):Bool:=match c with
 |.type s=>match S.eqLit 0x737075627366756a6075746a6d s with
  |true=>gJ d
  |false=>false
 |_=>false
noncomputable def H5 (o:Obj):Bool:=mY o.cls o.data
noncomputable def Gw (c:Code):Option (Addr×Code):=match c with
 |.compStart e d it acc env=>match d,it with
  |0,.ref a=>match e with
   |.ListComp elt gs scope pos=>match gs with
    |g::rest=>match g.is_async with
     |0=>some (a,.compLoop (.ListComp elt (g::rest) scope pos) 0 (.ref a) acc env)
     |_=>none
    |[]=>none
   |_=>none
  |_,_=>none
 |_=>none
noncomputable abbrev Go:=Nat→Code→Kn→Nat→Sem Fin→Led→Nat→Nat→Led→Ant→bw→vQ→Res
noncomputable def kY (env:Env)(x:Value):Sem Unit:=do noteFrame x env;theTreesLotGoes x
noncomputable def aj (F X:bw):bw:=fun a o=>F a o∨X a o
noncomputable def Az (g:Cfg):Kn→Option (List Env)
 |.base=>g.fr
 |.ret c _ _ κ=>pushEnvs c.envs (Az g κ)
 |.lv _ κ=>Az g κ
noncomputable def Ph (b:Bool)(K:Res):Res:=match b with
 |true=>K
 |false=>.bad 0 1
noncomputable def offB (b:Bool)(K:Res):Res:=match b with
 |false=>K
 |true=>.bad 0 2
noncomputable def vD {α β:Type}(x:Option (α×β))(K:α→β→Res):Res:=match x with
 |some (o,q)=>K o q
 |none=>.bad 0 3
noncomputable def Pk (dg:Nat)(led:Led)(K:Nat→Addr×Obj→Res):Res:=match dg with
 |0=>.bad 0 4
 |j+1=>match tY led j with
  |some p=>K j p
  |none=>.bad 0 5
noncomputable def take (g:Cfg)(go:Go)(h:Nat)(c:Code)(κ:Kn)(dep:Nat)(led ro:Led)(F:bw)(m lim:Nat)(t:Sem Fin)(objs:List Obj)(new:Led)(X:bw)(ro':Led)(Z V:Nat)(ant:Ant)(ps:vQ):Res:=
 Ph (Nat.ble (g.lim+dep) lim) (match Sv κ with
  |none=>go h c κ dep t (Dg (uP m led objs) new) Z V (Dg ro ro') ant (aj F X) ps
  |some _=>.bad 0 6)
noncomputable def Ey (g:Cfg)(go:Go)(h:Nat)(c:Code)(κ:Kn)(dep:Nat)(led ro:Led)(F:bw)(m:Nat)(a:Ans)(ant:Ant)(ps:vQ):Res:=
 take g go h c κ dep led ro F m a.lim (Wy a.r) a.objs a.new a.X a.ro a.Z a.V ant ((.code c,.code a.c)::(.led (di m led),.led a.led)::ps)
noncomputable def answer (g:Cfg)(go:Go)(h:Nat)(c:Code)(κ:Kn)(dep:Nat)(led:Led)(Z V:Nat)(ro:Led)(ant:Ant)(F:bw)(ps:vQ):Res:=
 match ant with
 |.nil=>.bad 0 30
 |.cons m f k=>Ey g go h c κ dep led ro F m (f c (di m led) Z V) (k c (di m led) Z V) ps
 |.consF l m f k=>Ey g go h c κ dep led ro F m (f c (di m led) Z V) (k c (di m led) Z V) ((.envs (Az g κ),.envs (some l))::ps)
 |.fix m f sz0 tok0 k=>Ey g go h c κ dep led ro F m (f (di m led)) (k (di m led)) ((.nat Z,.nat sz0)::(.nat V,.nat tok0)::ps)
 |.jump m f k=>(fun a:Jmp=>take g go h c κ dep led ro F m a.lim (.pure (.again a.c')) a.objs a.new a.X a.ro a.Z a.V (k c (di m led) Z V) ((.code c,.code a.c)::(.led (di m led),.led a.led)::ps)) (f c (di m led) Z V)
noncomputable def J0 (g:Cfg)(go:Go)(h:Nat)(c:Code)(κ:Kn)(dep:Nat)(led:Led)(Z V:Nat)(ro:Led)(ant:Ant)(F:bw)(ps:vQ):Res:=
 Ph (Nat.blt (g.lim+dep) 4000) (match c with
  |.func body env=>go (h/256) c (.lv (leaving env) κ) dep (g.fbR body env) led Z V ro ant F ps
  |.forLoop t it b o env=>go (h/256) c (.lv (kY env) κ) dep (g.flR t it b o env) led Z V ro ant F ps
  |.compLoop e d it acc env=>offB c.isFrame (go (h/256) c (.lv (kY env) κ) dep (g.clR e d it acc env) led Z V ro ant F ps)
  |.compStart ..=>vD (Gw c) fun a c'=>vD (seek g led ro (h/256%256) a) fun o q=>Ph (H5 o) (match c' with
   |.compLoop e d it acc env=>offB c'.isFrame (go (h/65536) c' (.lv (kY env) κ) dep (g.clR e d it acc env) led Z V ro ant F (q++ps))
   |_=>.bad 0 28)
  |_=>.bad 0 25)
noncomputable def Rg (g:Cfg)(go:Go)(h:Nat)(c:Code)(κ:Kn)(dep:Nat)(led:Led)(Z V:Nat)(ro:Led)(ant:Ant)(F:bw)(ps:vQ):Res:=
 match c with
 |.call fv args=>match fv with
  |.ref a=>vD (seek g led ro (h/256%256) a) fun o q=>match o.data with
   |.func fd=>Ph (Nat.blt (g.lim+dep+5) 1000) (go (h/65536) c κ dep (g.fn a fd args) led Z V ro ant F (q++ps))
   |_=>go (h/256) c κ dep (g.dn c) led Z V ro ant F ps
  |_=>go (h/256) c κ dep (g.dn c) led Z V ro ant F ps
 |.func body env=>go (h/256) c (.lv (leaving env) κ) dep (g.fb body env) led Z V ro ant F ps
 |.whileLoop test body orelse env=>go (h/256) c (.lv (kY env) κ) dep (g.wl test body orelse env) led Z V ro ant F ps
 |.compStart ..=>vD (Gw c) fun a c'=>vD (seek g led ro (h/256%256) a) fun o q=>Ph (H5 o) (go (h/65536) c' κ dep (g.dn c') led Z V ro ant F (q++ps))
 |_=>go (h/256) c κ dep (g.dn c) led Z V ro ant F ps
noncomputable def JQ (g:Cfg)(go:Go)(dg h:Nat)(c:Code)(κ:Kn)(dep:Nat)(led:Led)(Z V:Nat)(ro:Led)(ant:Ant)(F:bw)(ps:vQ):Res:=
 match dg with
 |0=>Rg g go h c κ dep led Z V ro ant F ps
 |2=>J0 g go h c κ dep led Z V ro ant F ps
 |_=>answer g go (h/256) c κ dep led Z V ro ant F ps
noncomputable def enter (g:Cfg)(go:Go)(h:Nat)(c:Code)(κ:Kn)(dep:Nat)(led:Led)(Z V:Nat)(ro:Led)(ant:Ant)(F:bw)(ps:vQ):Res:=
 JQ g go (h%256) h c κ dep led Z V ro ant F ps
noncomputable def lN (g:Cfg):Nat→Go
 |0,_,c,κ,dep,t,led,Z,V,ro,ant,F,ps=>.ok ⟨c,κ,dep,t,led,Z,V,ro,ant,F,ps⟩
 |n+1,h,c,κ,dep,t,led,Z,V,ro,ant,F,ps=>match t with
  |.pure fin=>match fin with
   |.done f=>match κ with
    |.ret c' _ k κ'=>lN g n h c' κ' (dep-wt c') (k (.ok f)) led Z V ro ant F ps
    |.lv _ κ'=>lN g n h c κ' dep (.pure (.done f)) led Z V ro ant F ps
    |.base=>.bad n 1
   |.again c'=>match κ with
    |.lv _ κ'=>lN g n h c κ' dep (.pure (.again c')) led Z V ro ant F ps
    |_=>Ph (g.qt c') (enter g (lN g n) h c' κ dep led Z V ro ant F ps)
  |.raise e=>match κ with
   |.ret c' _ k κ'=>lN g n h c' κ' (dep-wt c') (k (.error e)) led Z V ro ant F ps
   |_=>.bad n 3
  |.rule _ k=>lN g n h c κ dep (k ()) led Z V ro ant F ps
  |.at _ k=>lN g n h c κ dep (k ()) led Z V ro ant F ps
  |.point _ k=>lN g n h c κ dep (k ()) led Z V ro ant F ps
  |.ask k=>lN g n h c κ dep (k (g.st true)) led Z V ro ant F ((.tree (k (g.st true)),.tree (k (g.st false)))::ps)
  |.load a _ k=>vD (seek g led ro (h%256) a) fun o q=>lN g n (h/256) c κ dep (k o) led Z V ro ant F (q++ps)
  |.loadIfAlive a k=>vD (seek g led ro (h%256) a) fun o q=>lN g n (h/256) c κ dep (k (some o)) led Z V ro ant F (q++ps)
  |.update a _ f k=>Pk (h%256) led fun j p=>offB (f p.2).isFreed (lN g n (h/256) c κ dep (k ()) (Di f led j) Z V ro ant F ((.nat a,.nat p.1)::ps))
  |.alloc o k=>offB o.isFreed (lN g n h c κ dep (k Z) (Dg led [(Z,o)]) (Z+1) V ro ant F ps)
  |.fresh k=>lN g n h c κ dep (k V) led Z (V+1) ro ant F ps
  |.handled own k=>offB own (lN g n h c κ dep (k (Sv κ)) led Z V ro ant F ps)
  |.call c' hd _ _ k=>Ph (okMark hd) (enter g (lN g n) h c' (.ret c hd k κ) (wt c+dep) led Z V ro ant F ps)
  |_=>.bad n 13
noncomputable def H3 (self:Addr)(fd:FuncData)(args:Args)(last:Sem Unit)(compiled:Str):Sem Fin:=do
 let env←newFunctionEnv fd.scope fd.globals fd.closure (←bindArgs fd args) (compiled ++ ".<locals>.") (some self) fd.code none fd.builtins
 last
 let code:Code:=match fd.body with
  |.stmts b=>.func b env
  |.expr e=>.expr e env
 match fd.scope.isGenerator,fd.scope.isCoroutine with
 |false,false=>again code
 |true,false=>ret (←newGenerator code fd.name fd.qualname)
 |false,true=>ret (←newCoroutine code fd.name fd.qualname)
 |true,true=>ret (←newAsyncGenerator code fd.name fd.qualname)
noncomputable def yp (fd:FuncData):Sem Str:=match fd.code with
 |.none=>pure fd.qualname
 |c=>field c 1>>=fun v=>pure (match v with
  |.str q _=>q
  |_=>fd.qualname)
noncomputable def Jw:Sem Unit:=do
 let limit←currentRecursionLimit
 if limit=recursionLimit then pure () else unsupported "Mine.limit"
noncomputable def tB (self:Addr)(fd:FuncData)(args:Args):Sem Fin:=yp fd>>=H3 self fd args Jw
theorem JW (self:Addr)(fd:FuncData)(args:Args):callFunction self fd args=yp fd>>=H3 self fd args enterFrame:=by
 unfold callFunction yp H3
 generalize fd.code=cd
 have h:∀(x:Value) (f:Str→Sem Fin),(field x 1>>=fun v=>match v with
   |.str q _=>pure q>>=f
   |_=>pure fd.qualname>>=f)=(field x 1>>=fun v=>pure (match v with
   |.str q _=>q
   |_=>fd.qualname))>>=f:=fun x f=>by
  rw[bind_assoc]
  refine congrArg (field x 1 >>= ·) (funext fun v=>?_)
  cases v<;>rfl
 cases cd with
 |none=>rfl
 |_=>exact h _ _
theorem Ip {M:Model}{A:Around}{Γ:Ctx}{p:Pos}{s:Shared}{Q:Unit→Pos→Shared→Prop}{E:Value→Pos→Shared→Prop}(hΓ:Γ.In A)(hd:A.depth<recursionLimit)(h:wp M Γ (do let limit←currentRecursionLimit;if limit=recursionLimit then pure () else unsupported "Mine.limit":Sem Unit) Q E p s):wp M Γ enterFrame Q E p s:=by
 have hsum:((((Γ.code,p)::Γ.below).map (·.1)).map (·.frames)).sum+((((Γ.code,p)::Γ.below).map (·.1)).filter Code.isCreation).length<recursionLimit:=by
  have hge:=frameCount_ge ((Γ.code,p)::Γ.below)
  rw[frameCount_cons] at hge
  have:=hΓ.2.1
  lia
 have hlt:¬((((Γ.code,p)::Γ.below).map (·.1)).map (·.frames)).sum≥recursionLimit:=by lia
 have hlt':¬((((Γ.code,p)::Γ.below).map (·.1)).map (·.frames)).sum+((((Γ.code,p)::Γ.below).map (·.1)).filter Code.isCreation).length≥recursionLimit:=by lia
 have hn:=not_nearTheLimit (p:=p) hΓ hd
 rw[Sem.wp_bind'] at h
 show wp M Γ (Sem.bind currentRecursionLimit _) Q E p s
 have e:∀(m:Sem Nat) (f:Nat→Sem Unit),Sem.bind m f=m>>=f:=fun _ _=>rfl
 rw[e,Sem.wp_bind']
 refine Sem.wp_mono M Γ _ (fun limit p' s' h'=>?_) (fun _ _ _ h'=>h') p s h
 by_cases hl:limit=recursionLimit
 ·subst hl
  rw[if_pos rfl] at h'
  have h'':Q () p' s':=h'
  show wp M Γ (if nearTheLimitUnderAClaim (((Γ.code,p)::Γ.below).map (·.1)) (((((Γ.code,p)::Γ.below).map (·.1)).map (·.frames)).sum+((((Γ.code,p)::Γ.below).map (·.1)).filter Code.isCreation).length) recursionLimit=true then _ else _) _ _ p' s'
  rw[if_neg (by rw[hn];exact Bool.false_ne_true)]
  show wp M Γ (if((((Γ.code,p)::Γ.below).map (·.1)).map (·.frames)).sum≥recursionLimit then _ else _) _ _ p' s'
  rw[if_neg hlt]
  show wp M Γ (if((((Γ.code,p)::Γ.below).map (·.1)).map (·.frames)).sum+((((Γ.code,p)::Γ.below).map (·.1)).filter Code.isCreation).length≥recursionLimit then _ else _) _ _ p' s'
  rw[if_neg hlt'];exact h''
 ·rw[if_neg hl] at h'
  exact absurd h' (by intro q;exact q)
theorem Wn {M:Model}{A:Around}{c:Code}{a:Addr}{fd:FuncData}{args:Args}{s:Shared}{Q:Fin→Shared→Prop}{E:Value→Shared→Prop}(hd:(A.under c).depth<recursionLimit)(h:wpOwn M A c (tB a fd args) Q E s):wpOwn M A c (callFunction a fd args) Q E s:=fun Γ p hc hΓ=>by
 have x:wp M Γ (yp fd>>=H3 a fd args Jw) _ _ p s:=h Γ p hc hΓ
 have hin:Γ.In (A.under c):=hc▸hΓ.in
 rw[JW]
 rw[Sem.wp_bind'] at x ⊢
 refine Sem.wp_mono M Γ _ (fun comp p1 s1 h1=>?_) (fun _ _ _ h'=>h') p s x
 unfold H3 at h1 ⊢
 rw[Sem.wp_bind'] at h1 ⊢
 refine Sem.wp_mono M Γ _ (fun bs p2 s2 h2=>?_) (fun _ _ _ h'=>h') p1 s1 h1
 rw[Sem.wp_bind'] at h2 ⊢
 refine Sem.wp_mono M Γ _ (fun env p3 s3 h3=>?_) (fun _ _ _ h'=>h') p2 s2 h2
 rw[Sem.wp_bind'] at h3 ⊢
 exact Ip hin hd h3
theorem zu (c:Code):c.frames≤3:=by
 have h:∀b:Bool,(if b=true then 1 else 0)≤3:=fun b=>by cases b<;>exact Nat.le_of_ble_eq_true rfl
 have d:∀{p:Prop} [Decidable p] {a:p→Nat} {b:¬p→Nat},(∀q,a q≤3)→(∀q,b q≤3)→dite p a b≤3:=fun {p} _ {a b} ha hb=>by
  by_cases q:p
  ·rw[dif_pos q];exact ha q
  ·rw[dif_neg q];exact hb q
 unfold Code.frames
 delta Code.frames.match_1
 cases c with
 |builtin id args=>
  show dite _ _ _≤3
  repeat refine d (fun q=>by subst q;exact Nat.le_of_ble_eq_true rfl) fun _=>?_
  exact h _
 |_=>exact h _
theorem Cr {c:Code}(h:∀a,c≠.builtin "claim.caller" a):c.isCaller=false:=by
 unfold Code.isCaller
 delta Code.isCaller.match_1
 cases c with
 |builtin id args=>
  show dite _ _ _=false
  by_cases q:id = "claim.caller"
  ·subst q;exact absurd rfl (h _)
  ·rw[dif_neg q]
 |_=>rfl
theorem Be {id:String}{args:Args}(h:id ≠ "claim.caller"):(Code.builtin id args).isCaller=false:=
 Cr fun a e=>h (by injection e)
theorem zx (c:Code):c.weight≤wt c:=by
 have hf:=zu c
 have h1:(if c.isCreation then 1 else 0)≤1:=by split<;>decide
 have h2:(if c.isGuard then 1 else 0)≤1:=by split<;>decide
 unfold Code.weight
 cases c with
 |builtin id args=>
  show _≤cond (S.eqLit 0x73666d6d62642f6e6a626d64 id) 400 5
  by_cases h:id = "claim.caller"
  ·rw[Ie vA h]
   have h3:(if(Code.builtin id args).isCaller then claimMargin else 0)≤300:=by split<;>decide
   show _≤400
   lia
  ·have e:S.eqLit 0x73666d6d62642f6e6a626d64 id=false:=by
    cases q:S.eqLit 0x73666d6d62642f6e6a626d64 id with
    |false=>rfl
    |true=>exact absurd (ue vA q) h
   rw[e,Be h]
   show _≤5
   simp only[Bool.false_eq_true,if_false]
   lia
 |_=>
  show _≤5
  rw[Cr (by intro a q;cases q)]
  simp only[Bool.false_eq_true,if_false]
  lia
theorem units_le (c:Code):c.cUnits≤2*wt c:=by
 have hf:=zu c
 cases c with
 |builtin id args=>
  show 1+3*_≤2*cond (S.eqLit 0x73666d6d62642f6e6a626d64 id) 400 5
  cases S.eqLit 0x73666d6d62642f6e6a626d64 id
  ·show _≤2*5;lia
  ·show _≤2*400;lia
 |call f a=>show 1≤2*5;lia
 |_=>show 3*_≤2*5;lia
structure Rel (F:bw)(J:Array GenState)(dr:Drawn)(os:Osw)(led:Led)(Z V:Nat)(s:Shared):Prop where
 size:s.heap.objs.size=Z
 keep:∀b o,F b o→s.heap.get? b=some o
 own:∀p∈led,s.heap.get? p.1=some p.2
 apart:∀p∈led,∀o,¬F p.1 o
 nd:(led.map (·.1)).Nodup
 rest:s=⟨s.heap,J,dr,V,os.os⟩
 wf:∀p∈os.W,(∃sl,s.heap.get? p.1=some {p.2 with slots:=sl})∧(∀o,¬F p.1 o)∧p.1∉led.map (·.1)
theorem lz:∀{l:Led} {i:Nat} {p:Addr×Obj},tY l i=some p→p∈l
 |[],_,_,h=>nomatch h
 |_::_,0,_,h=>by cases h;exact .head _
 |_::l,n+1,_,h=>.tail _ (lz (l:=l) (i:=n) h)
theorem yu (f:Obj→Obj):∀(l:Led) (i:Nat),(Di f l i).map (·.1)=l.map (·.1)
 |[],_=>rfl
 |_::_,0=>rfl
 |p::l,n+1=>congrArg (p.1::·) (yu f l n)
theorem wL (f:Obj→Obj):∀{l:Led} {i:Nat} {p:Addr×Obj},(l.map (·.1)).Nodup→tY l i=some p→∀q∈Di f l i,q=(p.1,f p.2)∨(q∈l∧q.1≠p.1)
 |[],_,_,_,h=>nomatch h
 |x::l,0,p,nd,h=>fun q hq=>by
  cases h
  rcases List.mem_cons.mp hq with e|e
  ·exact .inl e
  ·refine .inr ⟨.tail _ e,fun z=>?_⟩
   have:=(List.nodup_cons.mp nd).1
   exact this (List.mem_map.mpr ⟨q,e,z⟩)
 |x::l,n+1,p,nd,h=>fun q hq=>by
  rcases List.mem_cons.mp hq with e|e
  ·subst e
   refine .inr ⟨.head _,fun z=>?_⟩
   have hm:=lz (l:=l) (i:=n) h
   exact(List.nodup_cons.mp nd).1 (List.mem_map.mpr ⟨p,hm,z.symm⟩)
  ·rcases wL f (List.nodup_cons.mp nd).2 h q e with e'|⟨e',e''⟩
   ·exact .inl e'
   ·exact .inr ⟨.tail _ e',e''⟩
theorem lO:∀l x:Led,Dg l x=l++x
 |[],_=>rfl
 |p::l,x=>congrArg (p::·) (lO l x)
theorem jY:∀(m:Nat) (l:Led),∀p∈di m l,p∈l
 |_,[],_,h=>nomatch h
 |m,p::l,q,h=>by
  unfold di at h
  split at h
  ·rcases List.mem_cons.mp h with e|e
   ·exact e ▸ .head _
   ·exact .tail _ (jY _ l q e)
  ·exact .tail _ (jY _ l q h)
theorem jW:∀(m:Nat) (l:Led),∀p∈iQ m l,p∈l
 |_,[],_,h=>nomatch h
 |m,p::l,q,h=>by
  unfold iQ at h
  split at h
  ·exact .tail _ (jW _ l q h)
  ·rcases List.mem_cons.mp h with e|e
   ·exact e ▸ .head _
   ·exact .tail _ (jW _ l q e)
theorem Bo:∀(m:Nat) (l:Led),uP m l []=l
 |_,[]=>rfl
 |m,p::l=>by
  unfold uP
  split
  ·exact congrArg (p::·) (Bo _ l)
  ·exact congrArg (p::·) (Bo _ l)
theorem qU:∀(m:Nat) (l:Led) (os:List Obj),∀q∈uP m l os,q∈gQ (di m l) os∨q∈iQ m l
 |_,[],_,_,h=>nomatch h
 |m,p::l,os,q,h=>by
  cases hm:Nat.beq (m%2) 1 with
  |true=>
   cases os with
   |nil=>
    simp only[uP,hm] at h
    simp only[di,iQ,hm,gQ]
    rcases List.mem_cons.mp h with e|e
    ·exact .inl (e ▸ .head _)
    ·rcases qU _ l [] q e with x|x
     ·exact .inl (.tail _ x)
     ·exact .inr x
   |cons o os=>
    simp only[uP,hm] at h
    simp only[di,iQ,hm,gQ]
    rcases List.mem_cons.mp h with e|e
    ·exact .inl (e ▸ .head _)
    ·rcases qU _ l os q e with x|x
     ·exact .inl (.tail _ x)
     ·exact .inr x
  |false=>
   simp only[uP,hm] at h
   simp only[di,iQ,hm]
   rcases List.mem_cons.mp h with e|e
   ·exact .inr (e ▸ .head _)
   ·rcases qU _ l os q e with x|x
    ·exact .inl x
    ·exact .inr (.tail _ x)
theorem qz:∀(m:Nat) (l:Led) (os:List Obj),(uP m l os).map (·.1)=l.map (·.1)
 |_,[],_=>rfl
 |m,p::l,os=>by
  unfold uP
  split
  ·cases os with
   |nil=>exact congrArg (p.1::·) (qz _ l [])
   |cons o os=>exact congrArg (p.1::·) (qz _ l os)
  ·exact congrArg (p.1::·) (qz _ l os)
theorem xd:∀(l:Led) (os:List Obj),(gQ l os).map (·.1)=l.map (·.1)
 |[],_=>rfl
 |p::l,[]=>congrArg (p.1::·) (xd l [])
 |p::l,o::os=>congrArg (p.1::·) (xd l os)
theorem wU:∀(m:Nat) (l:Led),(l.map (·.1)).Nodup→((di m l).map (·.1)).Nodup
 |_,[],_=>List.nodup_nil
 |m,p::l,nd=>by
  unfold di
  have nd2:=(List.nodup_cons.mp nd).2
  split
  ·refine List.nodup_cons.mpr ⟨fun h=>?_,wU _ l nd2⟩
   refine aL (List.mem_map.mp h) fun q hq e=>?_
   exact(List.nodup_cons.mp nd).1 (List.mem_map.mpr ⟨q,jY _ l q hq,e⟩)
  ·exact wU _ l nd2
theorem uU:∀(m:Nat) (l:Led),(l.map (·.1)).Nodup→∀p∈di m l,∀q∈iQ m l,p.1≠q.1
 |_,[],_,_,h,_,_=>nomatch h
 |m,x::l,nd,p,hp,q,hq=>by
  have n1:=(List.nodup_cons.mp nd).1
  have nd2:=(List.nodup_cons.mp nd).2
  unfold di at hp
  unfold iQ at hq
  split at hp
  ·rename_i hm
   simp only[hm] at hq
   rcases List.mem_cons.mp hp with e|e
   ·subst e
    intro z
    exact n1 (List.mem_map.mpr ⟨q,jW _ l q hq,z.symm⟩)
   ·exact uU _ l nd2 p e q hq
  ·rename_i hm
   simp only[hm] at hq
   rcases List.mem_cons.mp hq with e|e
   ·subst e
    intro z
    exact n1 (List.mem_map.mpr ⟨p,jY _ l p hp,z⟩)
   ·exact uU _ l nd2 p hp q e
section
variable {F:bw} {J:Array GenState} {dr:Drawn} {os:Osw} {led:Led} {Z V:Nat} {s:Shared}
theorem Rel.lt (r:Rel F J dr os led Z V s){b:Addr}{o:Obj}(h:s.heap.get? b=some o):b<Z:=r.size▸Heap.lt_size h
theorem Rel.alloc (r:Rel F J dr os led Z V s){o:Obj}(hf:o.isFreed=false):Rel F J dr os (Dg led [(Z,o)]) (Z+1) V {s with heap:=s.heap.push o}:=by
 have e:=r.rest
 refine⟨?_,fun b o' h=>Heap.get?_push_of_some _ (r.keep b o' h),fun p hp=>?_,fun p hp o' h=>?_,?_,?_,fun p hp=>?_⟩
 ·show(s.heap.push o).objs.size=_
  rw[Heap.size_push,r.size]
 ·rw[lO] at hp
  rcases List.mem_append.mp hp with h|h
  ·exact Heap.get?_push_of_some _ (r.own p h)
  ·rw[List.mem_singleton.mp h]
   show(s.heap.push o).get? Z=some o
   rw[←r.size];exact Heap.get?_push_size _ hf
 ·rw[lO] at hp
  rcases List.mem_append.mp hp with q|q
  ·exact r.apart p q o' h
  ·rw[List.mem_singleton.mp q] at h
   exact absurd (r.lt (r.keep _ _ h)) (Nat.lt_irrefl _)
 ·rw[lO,List.map_append]
  refine List.nodup_append.mpr ⟨r.nd,by simp,?_⟩
  intro a ha b hb
  refine aL (List.mem_map.mp ha) fun p hp er0=>?_;subst er0
  have:=r.lt (r.own p hp)
  have hb':b=Z:=by simpa using hb
  subst hb'
  exact Nat.ne_of_lt this
 ·rw[e]
 ·refine aK (r.wf p hp) fun ep1 h2 h3=>?_;obtain⟨sl,h1⟩:=ep1
  refine⟨⟨sl,Heap.get?_push_of_some _ h1⟩,h2,fun hm=>?_⟩
  rw[lO,List.map_append] at hm
  rcases List.mem_append.mp hm with q|q
  ·exact h3 q
  ·have hlt:p.1<Z:=r.lt h1
   have:p.1=Z:=by simpa using q
   exact absurd hlt (by rw[this];exact Nat.lt_irrefl _)
theorem Rel.upd (r:Rel F J dr os led Z V s){i:Nat}{p:Addr×Obj}{f:Obj→Obj}(hi:tY led i=some p)(hf:(f p.2).isFreed=false):Rel F J dr os (Di f led i) Z V {s with heap:=s.heap.update p.1 f}:=by
 have hp:=lz hi
 have ho:=r.own p hp
 have hs:Heap.SameBut p.1 s.heap (s.heap.update p.1 f):=Heap.SameBut.update ..
 have e:=r.rest
 refine⟨by rw[←r.size];exact hs.1,fun b o' h=>?_,fun q hq=>?_,fun q hq o' h=>?_,?_,?_,fun q hq=>?_⟩
 ·exact(hs.2 b fun z=>r.apart p hp o' (z▸h)).trans (r.keep b o' h)
 ·rcases wL f r.nd hi q hq with z|⟨z,z'⟩
  ·subst z
   first|exact Heap.get?_update_self f ho hf|exact Heap.get?_update_self _ ho hf
  ·exact(hs.2 q.1 z').trans (r.own q z)
 ·rcases wL f r.nd hi q hq with z|⟨z,z'⟩
  ·subst z;exact r.apart p hp o' h
  ·exact r.apart q z o' h
 ·rw[yu];exact r.nd
 ·rw[e]
 ·refine aK (r.wf q hq) fun ep2 h2 h3=>?_;obtain⟨sl,h1⟩:=ep2
  refine⟨⟨sl,(hs.2 q.1 fun z=>h3 (List.mem_map.mpr ⟨p,hp,z.symm⟩)).trans h1⟩,h2,?_⟩
  rw[yu];exact h3
noncomputable def frame (F:bw)(rest:Led):bw:=fun b o=>F b o∨(b,o)∈rest
theorem Rel.small (r:Rel F J dr os led Z V s)(m:Nat):Rel (frame F (iQ m led)) J dr os (di m led) Z V s:=by
 refine⟨r.size,fun b o h=>?_,fun p hp=>r.own p (jY _ _ p hp),fun p hp o h=>?_,wU m led r.nd,r.rest,fun p hp=>?_⟩
 ·rcases h with h|h
  ·exact r.keep b o h
  ·exact r.own (b,o) (jW _ _ _ h)
 ·rcases h with h|h
  ·exact r.apart p (jY _ _ p hp) o h
  ·exact uU m led r.nd p hp _ h rfl
 ·refine aK (r.wf p hp) fun h1 h2 h3=>?_
  refine⟨h1,fun o h=>?_,fun hm=>?_⟩
  ·rcases h with h|h
   ·exact h2 o h
   ·exact h3 (List.mem_map.mpr ⟨_,jW _ _ _ h,rfl⟩)
  ·refine aL (List.mem_map.mp hm) fun q hq e=>?_
   exact h3 (List.mem_map.mpr ⟨q,jY _ _ q hq,e⟩)
theorem Rel.big {m:Nat}{objs:List Obj}{new:Led}{X:bw}{Z' V':Nat}{s':Shared}(r:Rel F J dr os led Z V s)(hX:∀b o,X b o→Z≤b)(r':Rel (aj (frame F (iQ m led)) X) J dr os (gQ (di m led) objs++new) Z' V' s'):Rel (aj F X) J dr os (Dg (uP m led objs) new) Z' V' s':=by
 have hmem:∀q∈Dg (uP m led objs) new,q∈gQ (di m led) objs++new∨q∈iQ m led:=fun q hq=>by
  rw[lO] at hq
  rcases List.mem_append.mp hq with h|h
  ·rcases qU m led objs q h with h|h
   ·exact .inl (List.mem_append_left _ h)
   ·exact .inr h
  ·exact .inl (List.mem_append_right _ h)
 refine⟨r'.size,fun b o h=>?_,fun q hq=>?_,fun q hq o h=>?_,?_,r'.rest,fun q hq=>?_⟩
 ·rcases h with h|h
  ·exact r'.keep b o (.inl (.inl h))
  ·exact r'.keep b o (.inr h)
 ·rcases hmem q hq with h|h
  ·exact r'.own q h
  ·exact r'.keep q.1 q.2 (.inl (.inr h))
 ·rcases hmem q hq with z|z
  ·rcases h with h|h
   ·exact r'.apart q z o (.inl (.inl h))
   ·exact r'.apart q z o (.inr h)
  ·rcases h with h|h
   ·exact r.apart q (jW _ _ q z) o h
   ·have h1:Z≤q.1:=hX q.1 o h
    have h2:q.1<Z:=r.lt (r.own q (jW _ _ q z))
    exact absurd h1 (Nat.not_le_of_lt h2)
 ·rw[lO,List.map_append,qz]
  have nd':=r'.nd
  rw[List.map_append] at nd'
  have nda:=List.nodup_append.mp nd'
  refine List.nodup_append.mpr ⟨r.nd,nda.2.1,fun a ha b hb=>?_⟩
  rw[←qz m led objs] at ha
  refine aL (List.mem_map.mp ha) fun p hp er3=>?_;subst er3
  rcases qU m led objs p hp with h|h
  ·exact nda.2.2 p.1 (List.mem_map.mpr ⟨p,h,rfl⟩) b hb
  ·refine aL (List.mem_map.mp hb) fun q hq er4=>?_;subst er4
   intro z
   exact r'.apart q (List.mem_append_right _ hq) p.2 (.inl (.inr (z▸h)))
 ·obtain⟨h1,h2,h3⟩:=r'.wf q hq
  refine⟨h1,fun o h=>?_,fun hm=>?_⟩
  ·rcases h with h|h
   ·exact h2 o (.inl (.inl h))
   ·exact h2 o (.inr h)
  ·obtain⟨p,hp,e⟩:=List.mem_map.mp hm
   rcases hmem p hp with z|z
   ·exact h3 (List.mem_map.mpr ⟨p,z,e⟩)
   ·exact h2 p.2 (.inl (.inr (e▸z)))
end
section
variable {prog:Program} {w:World} {A₀:Around} {R₀:Result→Shared→Prop}
theorem lw (hh:A₀.handled=none):∀κ:Kn,(lG A₀ κ).handled=Sv κ
 |.base=>hh
 |.lv _ κ=>lw hh κ
 |.ret c hd k κ=>by
  show(hd.or ((lG A₀ κ).under c).handled)=_
  have e:((lG A₀ κ).under c).handled=(lG A₀ κ).handled:=rfl
  rw[e,lw hh κ]
  cases hd<;>rfl
theorem pq {D:Nat}(hA:A₀.depth≤D):∀κ:Kn,(lG A₀ κ).depth≤D+mD κ
 |.base=>hA
 |.lv _ κ=>pq hA κ
 |.ret c hd k κ=>by
  have ih:=pq hA κ
  have e:((lG A₀ κ).under c).depth=(lG A₀ κ).depth+c.weight:=rfl
  have e2:(lG A₀ (.ret c hd k κ)).depth=((lG A₀ κ).under c).depth:=rfl
  have:=zx c
  rw[e2,e]
  show _≤D+(wt c+mD κ)
  lia
theorem jX {g:Cfg}(hf:∀l,g.fr=some l→A₀.frames=some l):∀(κ:Kn) (l:List Env),Az g κ=some l→(lG A₀ κ).frames=some l
 |.base,l,h=>hf l h
 |.lv _ κ,l,h=>jX hf κ l h
 |.ret c hd k κ,l,h=>by
  show((lG A₀ κ).under c).frames=some l
  show pushEnvs c.envs (lG A₀ κ).frames=some l
  have h':pushEnvs c.envs (Az g κ)=some l:=h
  obtain⟨l₀,e,rfl⟩:=pushEnvs_some h'
  rw[jX hf κ l₀ e,pushEnvs_eq]
  rfl
theorem lV {D:Nat}(hA:A₀.units≤2*D):∀κ:Kn,(lG A₀ κ).units≤2*(D+mD κ)
 |.base=>hA
 |.lv _ κ=>lV hA κ
 |.ret c hd k κ=>by
  have ih:=lV hA κ
  have e:((lG A₀ κ).under c).units=(lG A₀ κ).units+c.cUnits:=rfl
  have e2:(lG A₀ (.ret c hd k κ)).units=((lG A₀ κ).under c).units:=rfl
  have:=units_le c
  rw[e2,e]
  show _≤2*(D+(wt c+mD κ))
  lia
end
noncomputable def jO (prog:Program)(w:World)(J:Array GenState)(dr:Drawn)(os:Osw)(lim:Nat)(c:Code)(F:bw)(led:Led)(Z V:Nat)(r:Result)(F':bw)(led':Led)(Z' V':Nat):Prop:=
 ∀A:Around,A.depth≤lim→A.units≤2*lim→A.handled=none→∀s,Rel F J dr os led Z V s→
  codeAny (model prog w) A c (fun r' s'=>r'=r∧Rel F' J dr os led' Z' V' s') s
noncomputable def Oc (prog:Program)(w:World)(J:Array GenState)(dr:Drawn)(os:Osw)(fr:List Env)(lim:Nat)(c:Code)(F:bw)(led:Led)(Z V:Nat)(r:Result)(F':bw)(led':Led)(Z' V':Nat):Prop:=
 ∀A:Around,A.depth≤lim→A.units≤2*lim→A.handled=none→A.frames=some fr→∀s,Rel F J dr os led Z V s→
  codeAny (model prog w) A c (fun r' s'=>r'=r∧Rel F' J dr os led' Z' V' s') s
noncomputable def R3 (prog:Program)(w:World)(J:Array GenState)(dr:Drawn)(os:Osw)(fr:List Env)(F:bw)(a:Ans)(Z V:Nat):Prop:=
 (∀b o,a.X b o→Z≤b)∧(∀p∈a.ro,a.X p.1 p.2)∧
  ∀Fz:bw,(∀b o,F b o→Fz b o)→Oc prog w J dr os fr a.lim a.c Fz a.led Z V a.r (aj Fz a.X) (gQ a.led a.objs++a.new) a.Z a.V
noncomputable def bu (prog:Program)(w:World)(J:Array GenState)(dr:Drawn)(os:Osw)(F:bw)(a:Ans)(Z V:Nat):Prop:=
 (∀b o,a.X b o→Z≤b)∧(∀p∈a.ro,a.X p.1 p.2)∧
  ∀Fz:bw,(∀b o,F b o→Fz b o)→jO prog w J dr os a.lim a.c Fz a.led Z V a.r (aj Fz a.X) (gQ a.led a.objs++a.new) a.Z a.V
noncomputable def vO (prog:Program)(w:World)(J:Array GenState)(dr:Drawn)(os:Osw)(F:bw)(a:Jmp)(Z V:Nat):Prop:=
 (∀b o,a.X b o→Z≤b)∧(∀p∈a.ro,a.X p.1 p.2)∧
  ∀Fz:bw,(∀b o,F b o→Fz b o)→∀A:Around,A.depth≤a.lim→A.units≤2*a.lim→A.handled=none→∀R:Result→Shared→Prop,
   (∀s',Rel (aj Fz a.X) J dr os (gQ a.led a.objs++a.new) a.Z a.V s'→codeAny (model prog w) A a.c' R s')→∀s,Rel Fz J dr os a.led Z V s→codeAny (model prog w) A a.c R s
noncomputable def aA (prog:Program)(w:World)(J:Array GenState)(dr:Drawn)(os:Osw):bw→Ant→Prop
 |_,.nil=>True
 |F,.jump _ f k=>∀c l Z V,vO prog w J dr os F (f c l Z V) Z V∧aA prog w J dr os (aj F (f c l Z V).X) (k c l Z V)
 |F,.consF fr _ f k=>∀c l Z V,R3 prog w J dr os fr F (f c l Z V) Z V∧aA prog w J dr os (aj F (f c l Z V).X) (k c l Z V)
 |F,.cons _ f k=>∀c l Z V,bu prog w J dr os F (f c l Z V) Z V∧aA prog w J dr os (aj F (f c l Z V).X) (k c l Z V)
 |F,.fix _ f Z V k=>∀l,bu prog w J dr os F (f l) Z V∧aA prog w J dr os (aj F (f l).X) (k l)
structure Sound (g:Cfg)(prog:Program)(w:World):Prop where
 dn:g.dn=denote table
 fn:g.fn=tB
 fb:g.fb=mL
 wl:g.wl=whileTurn
 fbR:∀b env,Ref (mL b env) (g.fbR b env)
 flR:∀t it b o env,Ref (forTurn t it b o env) (g.flR t it b o env)
 clR:∀e d it acc env,Ref (compTurn e d it acc env) (g.clR e d it acc env)
 qt:∀c,g.qt c=true→c.quiet=true
 st:∃b,g.st b=⟨prog,w.params⟩
theorem jg {l:List Value}(h:m6 l=true):∃a i,l=[.ref a,.int (.ofNat i) 0]:=Classical.byContradiction fun hN=>by
 cases l with
 |nil=>cases h
 |cons x l=>
  cases x with
  |ref a=>
   cases l with
   |nil=>cases h
   |cons y l=>
    cases y with
    |int n t=>
     cases n with
     |ofNat i=>
      cases l with
      |nil=>
       have e:t=0:=Nat.eq_of_beq_eq_true h
       subst e
       exact hN ⟨_,_,rfl⟩
      |cons _ _=>cases h
     |negSucc i=>cases h
    |_=>cases h
  |_=>cases h
theorem jh {d:Data}(h:gJ d=true):∃a i,d=.fields ⟨[.ref a,.int (.ofNat i) 0]⟩:=by
 cases d with
 |fields vs=>
  obtain⟨a,i,e⟩:=jg h
  obtain⟨l⟩:=vs
  exact⟨a,i,by rw[show l=_ from e]⟩
 |_=>cases h
theorem jj {c:Value}{d:Data}(h:mY c d=true):c=.type "list_iterator"∧gJ d=true:=by
 cases c with
 |type s=>
  have h':(match S.eqLit 0x737075627366756a6075746a6d s with
   |true=>gJ d
   |false=>false)=true:=h
  cases hq:S.eqLit 0x737075627366756a6075746a6d s with
  |false=>rw[hq] at h';cases h'
  |true=>
   rw[hq] at h'
   exact⟨congrArg Value.type (ue yF hq),h'⟩
 |_=>cases h
theorem jq {o:Obj}(h:H5 o=true){hp:Heap}{a:Addr}(ho:hp.get? a=some o):∃l i,hp.IsListIter a l i:=by
 obtain⟨h1,h2⟩:=jj h
 obtain⟨l,i,h3⟩:=jh h2
 exact⟨l,i,o,ho,h1,h3⟩
section
variable {prog:Program} {w:World} {A₀:Around} {R₀:Result→Shared→Prop} {J:Array GenState} {dr:Drawn} {os:Osw} {g:Cfg}
theorem M9 {F:bw}(hkt:∀a o,g.kt.get a=some o→F a o){led ro:Led}{Z V:Nat}{s:Shared}(r:Rel F J dr os led Z V s)(hro:∀p∈ro,F p.1 p.2){dg:Nat}{a:Addr}{o:Obj}{q:vQ}(e:seek g led ro dg a=some (o,q))(hq:∀p∈q,p.1=p.2):s.heap.get? a=some o:=by
 unfold seek at e
 split at e
 ·split at e
  ·cases e;rename_i h;exact r.keep _ _ (hkt _ _ h)
  ·cases e
 ·split at e
  ·rename_i p h
   cases e
   have e1:a=p.1:=Ob.nat.inj (hq (.nat a,.nat p.1) (.head _))
   subst e1
   split at h
   ·exact r.own p (lz h)
   ·exact r.keep _ _ (hro p (lz h))
  ·cases e
end
end
section
open Sem (wp)
section
variable {M:Model} {A:Around} {c:Code} {s:Shared} {Q:Fin→Shared→Prop} {E:Value→Shared→Prop}
theorem Ac {body:List Stmt}{env:Env}(h:wpOwn M A c (mL body env) Q (fun e s'=>wpOwn M A c (leaving env e) (fun _ s''=>E e s'') E s') s):wpOwn M A c (denote table (.func body env)) Q E s:=fun Γ p hc hΓ=>by
 have x:=h Γ p hc hΓ
 have x':wp M Γ (execs body env>>=fun f=>match f with|.ret v=>ret v|_=>ret .none) (fun a _ s'=>Q a s') (fun e _ s'=>wpOwn M A c (leaving env e) (fun _ s''=>E e s'') E s') p s:=x
 show wp M Γ ((execs body env).onRaise (leaving env)>>=fun f=>match f with|.ret v=>ret v|_=>ret .none) _ _ p s
 rw[Sem.wp_bind'] at x' ⊢
 rw[Sem.wp_onRaise]
 refine Sem.wp_mono _ _ _ (fun f p1 s1 h1=>?_) (fun e p1 s1 h1=>h1 Γ p1 hc hΓ) p s x'
 cases f<;>exact h1
theorem JT {test:Expr}{body orelse:List Stmt}{env:Env}(h:wpOwn M A c (whileTurn test body orelse env) Q (fun e s'=>wpOwn M A c (kY env e) (fun _ s''=>E e s'') E s') s):wpOwn M A c (denote table (.whileLoop test body orelse env)) Q E s:=fun Γ p hc hΓ=>by
 show wp M Γ ((whileTurn test body orelse env).onRaise (kY env)) _ _ p s
 rw[Sem.wp_onRaise]
 exact Sem.wp_mono _ _ _ (fun f p1 s1 h1=>h1) (fun e p1 s1 h1=>h1 Γ p1 hc hΓ) p s (h Γ p hc hΓ)
end
section
variable {M:Model} {A:Around} {c:Code} {s:Shared} {Q:Fin→Shared→Prop} {E:Value→Shared→Prop}
theorem xn {Γ:Ctx}(hc:Γ.code=c)(hΓ:Γ.Below A)(hu:A.units+c.cUnits<cLine):Γ.units<cLine:=by
 have h1:=hΓ.2.2.2.2
 show Γ.code.cUnits+unitsOf Γ.below<cLine
 rw[hc]
 lia
theorem Ky {body:List Stmt}{env:Env}{T:Sem Fin}(hr:Ref (mL body env) T)(hu:A.units+(Code.func body env).cUnits<cLine)(h:wpOwn M A (.func body env) T Q (fun e s'=>wpOwn M A (.func body env) (leaving env e) (fun _ s''=>E e s'') E s') s):wpOwn M A (.func body env) (denote table (.func body env)) Q E s:=
 Ac fun Γ p hc hΓ=>hr M Γ _ _ p s (xn hc hΓ hu) (h Γ p hc hΓ)
theorem Ed {t:Expr}{it:Value}{b o:List Stmt}{env:Env}{T:Sem Fin}(hr:Ref (forTurn t it b o env) T)(hc:c=.forLoop t it b o env)(hu:A.units+c.cUnits<cLine)(h:wpOwn M A c T Q (fun e s'=>wpOwn M A c (kY env e) (fun _ s''=>E e s'') E s') s):wpOwn M A c (denote table c) Q E s:=fun Γ p hcd hΓ=>by
 have e1:denote table c=(forTurn t it b o env).onRaise (kY env):=by rw[hc];rfl
 rw[e1,Sem.wp_onRaise]
 refine hr M Γ _ _ p s (xn hcd hΓ hu) (Sem.wp_mono _ _ _ (fun f p1 s1 h1=>h1) (fun e p1 s1 h1=>h1 Γ p1 hcd hΓ) p s (h Γ p hcd hΓ))
theorem vJ {e:Expr}{d:Nat}{it acc:Value}{env:Env}{T:Sem Fin}(hr:Ref (compTurn e d it acc env) T)(hc:c=.compLoop e d it acc env)(hf:c.isFrame=false)(hu:A.units+c.cUnits<cLine)(h:wpOwn M A c T Q (fun e s'=>wpOwn M A c (kY env e) (fun _ s''=>E e s'') E s') s):wpOwn M A c (denote table c) Q E s:=fun Γ p hcd hΓ=>by
 have e1:denote table c=(compTurn e d it acc env).onRaise (kY env):=by
  rw[hc] at hf ⊢
  show(if(Code.compLoop e d it acc env).isFrame=true then _ else _)=_
  rw[hf]
  rfl
 rw[e1,Sem.wp_onRaise]
 refine hr M Γ _ _ p s (xn hcd hΓ hu) (Sem.wp_mono _ _ _ (fun f p1 s1 h1=>h1) (fun e p1 s1 h1=>h1 Γ p1 hcd hΓ) p s (h Γ p hcd hΓ))
end
section
variable (prog:Program) (w:World) (A₀:Around) (R₀:Result→Shared→Prop)
noncomputable def RK:Kn→Result→Shared→Prop
 |.base=>R₀
 |.ret c' _ k κ=>postR prog w (lG A₀ κ) c' (QE prog w A₀ R₀ c' κ).1 (QE prog w A₀ R₀ c' κ).2 k
 |.lv _ _=>fun _ _=>False
end
noncomputable def Uo:Kn→Bool
 |.lv _ _=>false
 |_=>true
section
variable {prog:Program} {w:World} {A₀:Around} {R₀:Result→Shared→Prop} {J:Array GenState} {dr:Drawn} {os:Osw} {g:Cfg} {Fb:bw}
theorem cX (A B C:bw):aj (aj A B) C=aj A (aj B C):=by
 funext a o
 exact propext ⟨fun h=>h.elim (fun h=>h.elim .inl fun h=>.inr (.inl h)) fun h=>.inr (.inr h),fun h=>h.elim (fun h=>.inl (.inl h)) fun h=>h.elim (fun h=>.inl (.inr h)) .inr⟩
theorem ik {c:Code}{κ:Kn}(hk:Uo κ=true){s:Shared}(h:d9 prog w A₀ R₀ c κ (denote table c) s):codeAny (model prog w) (lG A₀ κ) c (RK prog w A₀ R₀ κ) s:=by
 cases κ with
 |base=>exact y_code _ _ _ _ _ _ h
 |ret c' hd k κ=>exact y_code _ _ _ _ _ _ h
 |lv _ _=>cases hk
theorem m8 {c c':Code}{a:Addr}(e:Gw c=some (a,c'))(hN:∀elt target iter ifs rest scope pos acc env,c=.compStart (.ListComp elt (⟨target,iter,ifs,0⟩::rest) scope pos) 0 (.ref a) acc env→c'=.compLoop (.ListComp elt (⟨target,iter,ifs,0⟩::rest) scope pos) 0 (.ref a) acc env→False):False:=by
 cases c with
 |compStart x d it acc env=>
  cases d with
  |succ _=>cases it<;>exact Option.some_ne_none _ e.symm
  |zero=>
   cases it with
   |ref b=>
    cases x with
    |ListComp elt gs scope pos=>
     cases gs with
     |nil=>exact Option.some_ne_none _ e.symm
     |cons g rest=>
      obtain⟨target,iter,ifs,ia⟩:=g
      cases ia with
      |negSucc _=>exact Option.some_ne_none _ e.symm
      |ofNat n=>
       cases n with
       |succ _=>exact Option.some_ne_none _ e.symm
       |zero=>
        cases e
        exact hN _ _ _ _ _ _ _ _ _ rfl rfl
    |_=>exact Option.some_ne_none _ e.symm
   |_=>exact Option.some_ne_none _ e.symm
 |_=>exact Option.some_ne_none _ e.symm
theorem yl {c c':Code}{a:Addr}(e:Gw c=some (a,c')){A:Around}{R:Result→Shared→Prop}{s:Shared}{l:Addr}{i:Nat}(hi:s.heap.IsListIter a l i)(h:codeAny (model prog w) A c' R s):codeAny (model prog w) A c R s:=
 Classical.byContradiction fun hN=>m8 e fun _ _ _ _ _ _ _ _ _ h1 h2=>by
  subst h1 h2
  exact hN (codeAny_compStart_list h (wpAny_pyIter_listiter hi h))
end
structure Cx where
 prog:Program
 w:World
 A₀:Around
 R₀:Result→Shared→Prop
 gn:Array GenState
 dr:Drawn
 os:Osw
 Fb:bw
noncomputable def yK (ps:vQ):Prop:=∀p∈ps,p.1=p.2
section
variable (x:Cx) (g:Cfg)
noncomputable def Cx.R (F:bw)(led:Led)(Z V:Nat)(s:Shared):Prop:=Rel (aj x.Fb F) x.gn x.dr x.os led Z V s
noncomputable def Cx.M (c:Code)(κ:Kn)(t:Sem Fin)(s:Shared):Prop:=d9 x.prog x.w x.A₀ x.R₀ c κ t s
noncomputable def Cx.C (κ:Kn)(c:Code)(s:Shared):Prop:=codeAny (model x.prog x.w) (lG x.A₀ κ) c (RK x.prog x.w x.A₀ x.R₀ κ) s
noncomputable def Cx.Ends (r:Res):Prop:=match r with
 |.ok σ=>yK σ.ps∧∀s',x.R σ.F σ.led σ.Z σ.V s'→x.M σ.code σ.kont σ.tree s'
 |.bad _ _=>False
noncomputable def Cx.Ok (κ:Kn)(dep:Nat)(ro:Led)(ant:Ant)(F:bw):Prop:=
 dep=mD κ∧aA x.prog x.w x.gn x.dr x.os (aj x.Fb F) ant∧(∀p∈ro,(aj x.Fb F) p.1 p.2)∧∀a o,g.kt.get a=some o→(aj x.Fb F) a o
noncomputable def Cx.IH (mk:Go):Prop:=∀h c κ dep t led Z V ro ant F ps,x.Ok g κ dep ro ant F→
  x.Ends (mk h c κ dep t led Z V ro ant F ps)→yK ps∧∀s,x.R F led Z V s→x.M c κ t s
noncomputable def Cx.Fit:Prop:=x.A₀.depth≤g.lim∧x.A₀.units≤2*g.lim∧x.A₀.handled=none∧∀l,g.fr=some l→x.A₀.frames=some l
end
section
variable {x:Cx} {g:Cfg}
theorem yK.tl {p:Ob×Ob}{ps:vQ}(h:yK (p::ps)):yK ps:=fun q hq=>h q (.tail _ hq)
theorem yK.right {qs ps:vQ}(h:yK (qs++ps)):yK ps:=fun q hq=>h q (List.mem_append_right _ hq)
theorem yK.left {qs ps:vQ}(h:yK (qs++ps)):yK qs:=fun q hq=>h q (List.mem_append_left _ hq)
theorem tR {b:Bool}{K:Res}(H:x.Ends (Ph b K)):b=true∧x.Ends K:=by
 cases b
 ·exact H.elim
 ·exact⟨rfl,H⟩
theorem uz {b:Bool}{K:Res}(H:x.Ends (offB b K)):b=false∧x.Ends K:=by
 cases b
 ·exact⟨rfl,H⟩
 ·exact H.elim
theorem bW {α β:Type}{y:Option (α×β)}{K:α→β→Res}(H:x.Ends (vD y K)):∃o q,y=some (o,q)∧x.Ends (K o q):=by
 cases y with
 |none=>exact H.elim
 |some p=>exact⟨p.1,p.2,rfl,H⟩
theorem qX {dg:Nat}{led:Led}{K:Nat→Addr×Obj→Res}(H:x.Ends (Pk dg led K)):∃j p,tY led j=some p∧x.Ends (K j p):=by
 cases dg with
 |zero=>exact H.elim
 |succ j=>
  have H':x.Ends (match tY led j with
   |some p=>K j p
   |none=>.bad 0 5):=H
  cases hp:tY led j with
  |none=>rw[hp] at H';exact H'.elim
  |some p=>rw[hp] at H';exact⟨j,p,hp,H'⟩
theorem jr (hf:x.Fit g){mk:Go}(IH:x.IH g mk){h:Nat}{c:Code}{κ:Kn}{dep:Nat}{led ro:Led}{ant0:Ant}{F:bw}{m lim:Nat}{t:Sem Fin}{objs:List Obj}{new:Led}{X:bw}{ro':Led}{Z' V':Nat}{ant:Ant}{ps:vQ}(ok:x.Ok g κ dep ro ant0 F)(hn:aA x.prog x.w x.gn x.dr x.os (aj (aj x.Fb F) X) ant)(hr:∀p∈ro',X p.1 p.2)(H:x.Ends (take g mk h c κ dep led ro F m lim t objs new X ro' Z' V' ant ps)):
  yK ps∧(lG x.A₀ κ).depth≤lim∧(lG x.A₀ κ).units≤2*lim∧(lG x.A₀ κ).handled=none∧∀Z V s,x.R F led Z V s→(∀b o,X b o→Z≤b)→
   ∀s',Rel (aj (frame (aj x.Fb F) (iQ m led)) X) x.gn x.dr x.os (gQ (di m led) objs++new) Z' V' s'→x.M c κ t s':=by
 obtain⟨hl,H⟩:=tR H
 have h0:=Nat.le_of_ble_eq_true hl
 have h1:=pq hf.1 κ
 have h2:=lV hf.2.1 κ
 have h3:=ok.1
 cases hk:Sv κ with
 |some _=>rw[hk] at H;exact H.elim
 |none=>
  rw[hk] at H
  rw[cX] at hn
  obtain⟨hp,y⟩:=IH _ _ _ _ _ _ _ _ _ _ _ _ ⟨h3,hn,fun p hp=>by
   rw[lO] at hp
   rcases List.mem_append.mp hp with q|q
   ·exact cX x.Fb F X▸(Or.inl (ok.2.2.1 p q):aj (aj x.Fb F) X p.1 p.2)
   ·exact .inr (.inr (hr p q)),fun b o h=>cX x.Fb F X▸(Or.inl (ok.2.2.2 b o h):aj (aj x.Fb F) X b o)⟩ H
  refine⟨hp,by lia,by lia,(lw hf.2.2.1 κ).trans hk,fun Z V s r hX s' r'=>y s' ?_⟩
  have big:=Rel.big (m:=m) (objs:=objs) (new:=new) r hX r'
  rw[cX] at big
  exact big
theorem wY (hf:x.Fit g){mk:Go}(IH:x.IH g mk){h:Nat}{c:Code}{κ:Kn}{dep:Nat}{led ro:Led}{ant0:Ant}{F:bw}{m:Nat}{a:Ans}{ant:Ant}{ps:vQ}{Z V:Nat}(hk:Uo κ=true)(ok:x.Ok g κ dep ro ant0 F)(hn:aA x.prog x.w x.gn x.dr x.os (aj (aj x.Fb F) a.X) ant)(hr:∀p∈a.ro,a.X p.1 p.2)(hc:yK ps→(∀b o,a.X b o→Z≤b)∧((lG x.A₀ κ).depth≤a.lim→(lG x.A₀ κ).units≤2*a.lim→(lG x.A₀ κ).handled=none→∀s,Rel (frame (aj x.Fb F) (iQ m led)) x.gn x.dr x.os a.led Z V s→
   codeAny (model x.prog x.w) (lG x.A₀ κ) a.c (fun r' s'=>r'=a.r∧Rel (aj (frame (aj x.Fb F) (iQ m led)) a.X) x.gn x.dr x.os (gQ a.led a.objs++a.new) a.Z a.V s') s))(H:x.Ends (Ey g mk h c κ dep led ro F m a ant ps)):yK ps∧∀s,x.R F led Z V s→x.C κ c s:=by
 refine dm (jr hf IH ok hn hr H) fun hp d1 d2 d3 y=>?_
 have ec:c=a.c:=Ob.code.inj (hp _ (.head _))
 have el:di m led=a.led:=Ob.led.inj (hp _ (.tail _ (.head _)))
 obtain⟨hX,hc⟩:=hc hp.tl.tl
 refine⟨hp.tl.tl,fun s r Γ p hcd hΓ=>?_⟩
 have hc2:=hc d1 d2 d3 s (by rw[←el];exact Rel.small r m)
 rw[←ec,←el] at hc2
 refine wpCode_mono (fun r' s' hr'=>?_) (hc2 Γ p hcd hΓ)
 obtain⟨rfl,rel'⟩:=hr'
 have fin:=y Z V s r hX s' rel'
 have hbelow:Γ.Below (lG x.A₀ κ):=hΓ
 cases κ with
 |lv _ _=>cases hk
 |_=>cases hr:a.r<;>rw[hr] at fin<;>exact fin Γ p hcd hbelow
theorem t8 (hf:x.Fit g){mk:Go}(IH:x.IH g mk){h:Nat}{c:Code}{κ:Kn}{dep:Nat}{led:Led}{Z V:Nat}{ro:Led}{ant:Ant}{F:bw}{ps:vQ}(hk:Uo κ=true)(ok:x.Ok g κ dep ro ant F)(H:x.Ends (answer g mk h c κ dep led Z V ro ant F ps)):yK ps∧∀s,x.R F led Z V s→x.C κ c s:=by
 cases ant with
 |nil=>exact H.elim
 |cons m f k=>
  obtain⟨⟨a1,a2,a3⟩,a4⟩:=ok.2.1 c (di m led) Z V
  exact wY hf IH hk ok a4 a2 (fun _=>⟨a1,fun h1 h2 h3=>a3 _ (fun _ _ h=>.inl h) _ h1 h2 h3⟩) H
 |consF l m f k=>
  obtain⟨⟨a1,a2,a3⟩,a4⟩:=ok.2.1 c (di m led) Z V
  obtain⟨hp,y⟩:=wY hf IH hk ok a4 a2 (fun hp=>⟨a1,fun h1 h2 h3=>a3 _ (fun _ _ h=>.inl h) _ h1 h2 h3 (jX hf.2.2.2 κ l (Ob.envs.inj (hp _ (.head _))))⟩) H
  exact⟨hp.tl,y⟩
 |fix m f sz0 tok0 k=>
  obtain⟨⟨a1,a2,a3⟩,a4⟩:=ok.2.1 (di m led)
  obtain⟨hp,y⟩:=wY (Z:=Z) (V:=V) hf IH hk ok a4 a2 (fun hp=>by
   have e1:Z=sz0:=Ob.nat.inj (hp _ (.head _))
   have e2:V=tok0:=Ob.nat.inj (hp _ (.tail _ (.head _)))
   rw[e1,e2]
   exact⟨a1,fun h1 h2 h3=>a3 _ (fun _ _ h=>.inl h) _ h1 h2 h3⟩) H
  exact⟨hp.tl.tl,y⟩
 |jump m f k=>
  obtain⟨⟨a1,a2,a3⟩,a4⟩:=ok.2.1 c (di m led) Z V
  refine dm (jr hf IH ok a4 a2 H) fun hp d1 d2 d3 y=>?_
  have ec:c=_:=Ob.code.inj (hp _ (.head _))
  have el:di m led=_:=Ob.led.inj (hp _ (.tail _ (.head _)))
  refine⟨hp.tl.tl,fun s r=>?_⟩
  have fin:=a3 (frame (aj x.Fb F) (iQ m led)) (fun _ _ h=>.inl h) _ d1 d2 d3 (RK x.prog x.w x.A₀ x.R₀ κ) (fun s' r' Γ p hcd hΓ=>by
   rw[←el] at r'
   have fin:=y Z V s r a1 s' r'
   cases κ with
   |lv _ _=>cases hk
   |_=>exact(fin (Γ.goto c) p rfl (hΓ.goto c)).2 Γ p hcd hΓ) s (by rw[←el];exact Rel.small r m)
  rw[←ec] at fin
  exact fin
theorem iR {κ:Kn}{dep:Nat}{ro:Led}{ant:Ant}{F:bw}(ok:x.Ok g κ dep ro ant F){led:Led}{Z V:Nat}{s:Shared}(r:x.R F led Z V s){dg:Nat}{a:Addr}{o:Obj}{q:vQ}(e:seek g led ro dg a=some (o,q))(hq:yK q):s.heap.get? a=some o:=
 M9 ok.2.2.2 r ok.2.2.1 e hq
theorem Al (G:Sound g x.prog x.w)(hf:x.Fit g){mk:Go}(IH:x.IH g mk){h:Nat}{c:Code}{κ:Kn}{dep:Nat}{led:Led}{Z V:Nat}{ro:Led}{ant:Ant}{F:bw}{ps:vQ}(hk:Uo κ=true)(ok:x.Ok g κ dep ro ant F)(H:x.Ends (J0 g mk h c κ dep led Z V ro ant F ps)):yK ps∧∀s,x.R F led Z V s→x.C κ c s:=by
 obtain⟨hb,H⟩:=tR H
 have hun:∀c':Code,wt c'=5→(lG x.A₀ κ).units+c'.cUnits<cLine:=fun c' h4=>by
  have h1:=lV hf.2.1 κ
  have h2:=X.blt_true hb
  have h3:c'.cUnits≤2*wt c':=units_le c'
  have h5:cLine=9900:=rfl
  have h6:=ok.1
  rw[h5]
  lia
 cases c with
 |func body env=>
  obtain⟨hp,y⟩:=IH _ _ (.lv (leaving env) κ) _ _ _ _ _ _ _ _ _ ok H
  exact⟨hp,fun s r=>ik hk (Ky (G.fbR _ _) (hun _ rfl) (y s r))⟩
 |forLoop t it b o env=>
  obtain⟨hp,y⟩:=IH _ _ (.lv (kY env) κ) _ _ _ _ _ _ _ _ _ ok H
  exact⟨hp,fun s r=>ik hk (Ed (G.flR _ _ _ _ _) rfl (hun _ rfl) (y s r))⟩
 |compLoop e0 d0 it0 acc0 env0=>
  obtain⟨hf2,H⟩:=uz H
  obtain⟨hp,y⟩:=IH _ _ (.lv (kY env0) κ) _ _ _ _ _ _ _ _ _ ok H
  exact⟨hp,fun s r=>ik hk (vJ (G.clR _ _ _ _ _) rfl hf2 (hun _ rfl) (y s r))⟩
 |compStart e0 d0 it0 acc0 env0=>
  refine b7 (bW H) fun a c' hlc H=>?_
  refine b7 (bW H) fun o q hs H=>?_
  obtain⟨hli,H⟩:=tR H
  cases c' with
  |compLoop e1 d1 it1 acc1 env1=>
   obtain⟨hf2,H⟩:=uz H
   obtain⟨hp,y⟩:=IH _ _ (.lv (kY env1) κ) _ _ _ _ _ _ _ _ _ ok H
   refine⟨hp.right,fun s r=>?_⟩
   refine aJ (jq hli (iR ok r hs hp.left)) fun l j hit=>?_
   exact yl hlc hit (ik hk (vJ (G.clR _ _ _ _ _) rfl hf2 (hun _ rfl) (y s r)))
  |_=>exact H.elim
 |_=>exact H.elim
theorem DP {prog:Program}{w:World}{A:Around}{a:Addr}{args:Args}{o:Obj}{fd:FuncData}{s:Shared}{Q:Fin→Shared→Prop}{E:Value→Shared→Prop}(ho:s.heap.get? a=some o)(hfd:o.data=.func fd)(hd:A.depth+5<1000)(h:wpOwn (model prog w) A (.call (.ref a) args) (tB a fd args) Q E s):wpOwn (model prog w) A (.call (.ref a) args) (denote table (.call (.ref a) args)) Q E s:=fun Γ p hc hΓ=>by
 have hdep:(A.under (.call (.ref a) args)).depth<recursionLimit:=Nat.lt_of_le_of_lt (Nat.add_le_add_left (zx (.call (.ref a) args)) A.depth) hd
 have y':=Wn hdep h Γ p hc hΓ
 show wp _ Γ (callAny (.ref a) args) _ _ p s
 unfold callAny
 dsimp only
 rw[Sem.wp_bind']
 refine(Sem.wp_load_of _ Γ _ p s ho _).mpr ?_
 simp only[hfd]
 exact y'
theorem q9 (G:Sound g x.prog x.w)(hf:x.Fit g){mk:Go}(IH:x.IH g mk){h:Nat}{c:Code}{κ:Kn}{dep:Nat}{led:Led}{Z V:Nat}{ro:Led}{ant:Ant}{F:bw}{ps:vQ}(hk:Uo κ=true)(ok:x.Ok g κ dep ro ant F)(H:x.Ends (enter g mk h c κ dep led Z V ro ant F ps)):yK ps∧∀s,x.R F led Z V s→x.C κ c s:=by
 have plain:∀h',x.Ends (mk h' c κ dep (g.dn c) led Z V ro ant F ps)→yK ps∧∀s,x.R F led Z V s→x.C κ c s:=fun h' z=>by
  rw[G.dn] at z
  obtain⟨hp,y⟩:=IH _ _ _ _ _ _ _ _ _ _ _ _ ok z
  exact⟨hp,fun s r=>ik hk (y s r)⟩
 have H':x.Ends (JQ g mk (h%256) h c κ dep led Z V ro ant F ps):=H
 generalize h%256=dg at H'
 match dg,H' with
 |1,H=>exact t8 hf IH hk ok H
 |2,H=>exact Al G hf IH hk ok H
 |_+3,H=>exact t8 hf IH hk ok H
 |0,H=>
  cases c with
  |call fv args=>
   cases fv with
   |ref a=>
    refine b7 (bW H) fun o q hs H=>?_
    cases hfd:o.data with
    |func fd=>
     rw[hfd] at H
     obtain⟨hb,H⟩:=tR H
     obtain⟨hp,y⟩:=IH _ _ _ _ _ _ _ _ _ _ _ _ ok H
     refine⟨hp.right,fun s r=>ik hk (DP (iR ok r hs hp.left) hfd ?_ (by rw[←G.fn];exact y s r))⟩
     have h1:=pq hf.1 κ
     have h4:=X.blt_true hb
     have h6:=ok.1
     lia
    |_=>rw[hfd] at H;exact plain _ H
   |_=>exact plain _ H
  |func body env=>
   obtain⟨hp,y⟩:=IH _ _ (.lv (leaving env) κ) _ _ _ _ _ _ _ _ _ ok H
   exact⟨hp,fun s r=>ik hk (Ac (by rw[←G.fb];exact y s r))⟩
  |whileLoop test body orelse env=>
   obtain⟨hp,y⟩:=IH _ _ (.lv (kY env) κ) _ _ _ _ _ _ _ _ _ ok H
   exact⟨hp,fun s r=>ik hk (JT (by rw[←G.wl];exact y s r))⟩
  |compStart e0 d0 it0 acc0 env0=>
   refine b7 (bW H) fun a c' hlc H=>?_
   refine b7 (bW H) fun o q hs H=>?_
   obtain⟨hli,H⟩:=tR H
   obtain⟨hp,y⟩:=IH _ _ _ _ _ _ _ _ _ _ _ _ ok H
   refine⟨hp.right,fun s r=>?_⟩
   refine aJ (jq hli (iR ok r hs hp.left)) fun l j hit=>?_
   have y2:=y s r
   rw[G.dn] at y2
   exact yl hlc hit (ik hk y2)
  |_=>exact plain _ H
theorem Rel.toks {F:bw}{J:Array GenState}{dr:Drawn}{os:Osw}{led:Led}{Z V:Nat}{s:Shared}(r:Rel F J dr os led Z V s):s.toks=V:=by rw[r.rest]
theorem Rel.fresh {F:bw}{J:Array GenState}{dr:Drawn}{os:Osw}{led:Led}{Z V:Nat}{s:Shared}(r:Rel F J dr os led Z V s)(n:Nat):Rel F J dr os led Z (V+n) {s with toks:=s.toks+n}:=by
 have hs:=r.rest
 exact⟨r.size,r.keep,r.own,r.apart,r.nd,by rw[hs],r.wf⟩
theorem Ig (c:Code)(hd:Option Value)(k:Result→Sem Fin)(κ:Kn):mD (.ret c hd k κ)=wt c+mD κ:=rfl
theorem Cx.Ok.up {c:Code}{hd:Option Value}{k:Result→Sem Fin}{κ:Kn}{dep:Nat}{ro:Led}{ant:Ant}{F:bw}(ok:x.Ok g (.ret c hd k κ) dep ro ant F):x.Ok g κ (dep-wt c) ro ant F:=
 ⟨by rw[ok.1,Ig];lia,ok.2⟩
theorem tu (G:Sound g x.prog x.w)(hf:x.Fit g):∀n,x.IH g (lN g n)
 |0=>fun h c κ dep t led Z V ro ant F ps ok H=>H
 |n+1=>fun h c κ dep t led Z V ro ant F ps ok H=>by
  have IH:=tu G hf n
  cases t with
  |pure fin=>
   cases fin with
   |done f=>
    cases κ with
    |base=>exact H.elim
    |lv hx κ'=>exact IH _ _ κ' _ _ _ _ _ _ _ _ _ ok H
    |ret c' hd' k κ'=>
     obtain⟨hp,y⟩:=IH _ _ _ _ _ _ _ _ _ _ _ _ ok.up H
     exact⟨hp,fun s r _ _ _ _=>y s r⟩
   |again c'=>
    cases κ with
    |lv hx κ'=>exact IH _ _ κ' _ _ _ _ _ _ _ _ _ ok H
    |_=>
     obtain⟨hq,H⟩:=tR H
     obtain⟨hp,y⟩:=q9 G hf IH rfl ok H
     exact⟨hp,fun s r=>y_pure _ _ _ _ _ _ _ _ _ (y_again _ _ _ _ _ _ (G.qt _ hq) (y s r))⟩
  |raise ev=>
   cases κ with
   |ret c' hd' k κ'=>
    obtain⟨hp,y⟩:=IH _ _ _ _ _ _ _ _ _ _ _ _ ok.up H
    exact⟨hp,fun s r _ _ _ _=>y s r⟩
   |_=>exact H.elim
  |rule tag k=>
   obtain⟨hp,y⟩:=IH _ _ _ _ _ _ _ _ _ _ _ _ ok H
   exact⟨hp,fun s r Γ p hc hΓ=>y s r Γ p hc hΓ⟩
  |«at» q k=>
   obtain⟨hp,y⟩:=IH _ _ _ _ _ _ _ _ _ _ _ _ ok H
   exact⟨hp,fun s r Γ p hc hΓ=>y s r Γ q hc hΓ⟩
  |point l k=>
   obtain⟨hp,y⟩:=IH _ _ _ _ _ _ _ _ _ _ _ _ ok H
   exact⟨hp,fun s r Γ p hc hΓ=>y s r Γ p hc hΓ⟩
  |ask k=>
   obtain⟨hp,y⟩:=IH _ _ _ _ _ _ _ _ _ _ _ _ ok H
   refine⟨hp.tl,fun s r Γ p hc hΓ=>?_⟩
   have et:k (g.st true)=k (g.st false):=Ob.tree.inj (hp _ (.head _))
   obtain⟨b,hb⟩:=G.st
   show wp _ Γ (k ⟨x.prog,x.w.params⟩) _ _ p s
   rw[←hb]
   cases b with
   |true=>exact y s r Γ p hc hΓ
   |false=>rw[←et];exact y s r Γ p hc hΓ
  |load a q k=>
   refine b7 (bW H) fun o qs hs H=>?_
   obtain⟨hp,y⟩:=IH _ _ _ _ _ _ _ _ _ _ _ _ ok H
   exact⟨hp.right,fun s r Γ p hc hΓ=>⟨o,iR ok r hs hp.left,y s r Γ p hc hΓ⟩⟩
  |loadIfAlive a k=>
   refine b7 (bW H) fun o qs hs H=>?_
   obtain⟨hp,y⟩:=IH _ _ _ _ _ _ _ _ _ _ _ _ ok H
   refine⟨hp.right,fun s r Γ p hc hΓ=>?_⟩
   show wp _ Γ (k (s.heap.get? a)) _ _ p s
   rw[iR ok r hs hp.left]
   exact y s r Γ p hc hΓ
  |update a q f k=>
   refine b7 (qX H) fun j pr hg H=>?_
   obtain⟨hz,H⟩:=uz H
   obtain⟨hp,y⟩:=IH _ _ _ _ _ _ _ _ _ _ _ _ ok H
   refine⟨hp.tl,fun s r Γ p hc hΓ=>?_⟩
   have ea:a=pr.1:=Ob.nat.inj (hp _ (.head _))
   subst ea
   exact⟨by rw[Rel.own r pr (lz hg)];rfl,y _ (Rel.upd r hg hz) Γ p hc hΓ⟩
  |alloc o k=>
   obtain⟨hz,H⟩:=uz H
   obtain⟨hp,y⟩:=IH _ _ _ _ _ _ _ _ _ _ _ _ ok H
   refine⟨hp,fun s r Γ p hc hΓ=>?_⟩
   show wp _ Γ (k s.heap.objs.size) _ _ p _
   rw[Rel.size r]
   exact y _ (Rel.alloc r hz) Γ p hc hΓ
  |fresh k=>
   obtain⟨hp,y⟩:=IH _ _ _ _ _ _ _ _ _ _ _ _ ok H
   refine⟨hp,fun s r Γ p hc hΓ=>?_⟩
   have e:=Rel.fresh r 1
   show wp _ Γ (k s.toks) _ _ p {s with toks:=s.toks+1}
   rw[Rel.toks r] at e ⊢
   exact y _ e Γ p hc hΓ
  |handled own k=>
   obtain⟨hz,H⟩:=uz H
   subst hz
   obtain⟨hp,y⟩:=IH _ _ _ _ _ _ _ _ _ _ _ _ ok H
   exact⟨hp,fun s r=>y_handled _ _ _ _ _ _ _ _ _ (by rw[lw hf.2.2.1 κ];exact y s r)⟩
  |call c' hd' gd l k=>
   obtain⟨hz,H⟩:=tR H
   obtain⟨hp,y⟩:=q9 G hf IH (κ:=.ret c hd' k κ) rfl ⟨by rw[ok.1];rfl,ok.2⟩ H
   exact⟨hp,fun s r=>y_call _ _ _ _ _ _ _ _ _ _ _ _ _ (by intro q;subst q;simp[okMark] at hz) (y s r)⟩
  |_=>exact H.elim
theorem bJ (F:bw):aj F (fun _ _=>False)=F:=by
 funext a o
 exact propext ⟨fun h=>h.elim id False.elim,.inl⟩
theorem uJ {prog:Program}{w:World}{J:Array GenState}{dr:Drawn}{os:Osw}{F:bw}{A:Around}{R₀:Result→Shared→Prop}(G:Sound g prog w)(hf:A.depth≤g.lim∧A.units≤2*g.lim∧A.handled=none∧∀l,g.fr=some l→A.frames=some l){n h:Nat}{c:Code}{κ:Kn}{dep:Nat}{t:Sem Fin}{led:Led}{Z V:Nat}{ro:Led}{ant:Ant}{σ:St}(ok:dep=mD κ∧aA prog w J dr os F ant∧(∀p∈ro,F p.1 p.2)∧∀a o,g.kt.get a=some o→F a o)(e:lN g n h c κ dep t led Z V ro ant (fun _ _=>False) []=.ok σ)(hp:yK σ.ps)(hend:∀s',Rel (aj F σ.F) J dr os σ.led σ.Z σ.V s'→d9 prog w A R₀ σ.code σ.kont σ.tree s'){s:Shared}(r:Rel F J dr os led Z V s):d9 prog w A R₀ c κ t s:=by
 rw[←bJ F] at ok r
 refine(tu (x:=⟨prog,w,A,R₀,J,dr,os,F⟩) G hf n h c κ dep t led Z V ro ant _ [] ok ?_).2 s r
 rw[e]
 exact⟨hp,hend⟩
theorem Hw {prog:Program}{w:World}{J:Array GenState}{dr:Drawn}{os:Osw}{F:bw}{A:Around}{R₀:Result→Shared→Prop}(G:Sound g prog w)(hf:A.depth≤g.lim∧A.units≤2*g.lim∧A.handled=none∧∀l,g.fr=some l→A.frames=some l){n h:Nat}{c:Code}{led:Led}{Z V:Nat}{ro:Led}{ant:Ant}{σ:St}(ok:0=mD .base∧aA prog w J dr os F ant∧(∀p∈ro,F p.1 p.2)∧∀a o,g.kt.get a=some o→F a o)(e:enter g (lN g n) h c .base 0 led Z V ro ant (fun _ _=>False) []=.ok σ)(hp:yK σ.ps)(hend:∀s',Rel (aj F σ.F) J dr os σ.led σ.Z σ.V s'→d9 prog w A R₀ σ.code σ.kont σ.tree s'){s:Shared}(r:Rel F J dr os led Z V s):codeAny (model prog w) A c R₀ s:=by
 rw[←bJ F] at ok r
 refine(q9 (x:=⟨prog,w,A,R₀,J,dr,os,F⟩) G hf (tu (x:=⟨prog,w,A,R₀,J,dr,os,F⟩) G hf n) (κ:=.base) rfl ok (h:=h) (ps:=[]) ?_).2 s r
 rw[e]
 exact⟨hp,hend⟩
end
end
noncomputable def XX (self:Addr)(fd:FuncData)(args:Args):Sem Fin:=
 match fd.code with
 |.ref cc=>match fd.scope.isGenerator,fd.scope.isCoroutine with
  |false,false=>
   R.bindR (Fast.tw6609576154772507232 (.ref cc) 1) fun v=>
   R.bindR (Fast.tw9782568553167038054 fd args) fun bs=>
   R.bindR (Fast.tw11113344188204177931 fd.scope fd.globals fd.closure bs ((match v with|.str q _=>q|_=>fd.qualname)++(⟨⟨[46,60,108,111,99,97,108,115,62,46]⟩⟩:Str)) (some self) (.ref cc) none fd.builtins) fun env=>
   R.bindR Fast.tw2211186353215096513 fun limit=>
   match Nat.beq limit 1000 with
   |true=>.pure (.again (match fd.body with|.stmts b=>.func b env|.expr e=>.expr e env))
   |false=>.unsupported "Mine.limit"
  |_,_=>tB self fd args
 |_=>tB self fd args
theorem QC:XX=tB:=by
 funext self fd args
 unfold XX
 split
 ·rename_i cc hc
  split
  ·rename_i hg hco
   have e0:(⟨⟨[46,60,108,111,99,97,108,115,62,46]⟩⟩:Str)=(".<locals>.":Str):=by decide +kernel
   unfold tB yp H3
   rw[←R.bindR_eq,←Fast.te6609576154772507232,←Fast.te9782568553167038054,←Fast.te11113344188204177931,←Fast.te2211186353215096513,e0]
   simp only[hc,hg,hco]
   rw[bind_assoc]
   refine congrArg (Sem.bind (field (.ref cc) 1)) (funext fun v=>congrArg (Sem.bind (bindArgs fd args)) (funext fun bs=>congrArg (Sem.bind _) (funext fun env=>?_)))
   unfold Jw
   rw[bind_assoc]
   refine congrArg (Sem.bind _) (funext fun limit=>?_)
   by_cases hl:limit=recursionLimit
   ·rw[if_pos hl,hl];rfl
   ·rw[if_neg hl]
    have:Nat.beq limit 1000=false:=by
     cases q:Nat.beq limit 1000 with
     |false=>rfl
     |true=>exact absurd (Nat.eq_of_beq_eq_true q) hl
    rw[this];rfl
  ·rfl
 ·rfl
noncomputable def Ym (body:List Stmt)(env:Env):Sem Fin:=
 .point [] fun _=>R.bindR (Fast.tw12563942051412417395 body env) fun f=>.pure (.done (.ret (match f with|.ret v=>v|_=>.none)))
theorem QW:Ym=mL:=by
 funext body env
 unfold Ym mL
 rw[←R.bindR_eq,←Fast.te12563942051412417395]
 refine congrArg (Sem.point []) (funext fun _=>congrArg (Sem.bind _) (funext fun f=>?_))
 cases f<;>rfl
noncomputable def Lr:Ops where
 bnd:=R.bindR
 on:=R.onRaiseR
 ev:=Fast.tw14044960220447912780
 tr:=Fast.tw15418851999007992765
 ex:=Fast.tw12563942051412417395
 ty:=Fast.tw14684505520029207082
 tt:=Fast.tw15245631507167962100
 isL:=fun v=>match v with
  |.type s=>S.eqLit 1970563693 s
  |_=>false
 cl:=fun f pos kw=>.call (.call f ⟨pos,kw⟩) none false [] fun r=>match r with
  |.ok fl=>match fl with
   |.ret v=>.pure v
   |_=>.unsupported "internal:call-without-return-value"
  |.error e=>.raise e
 cm:=Fast.tw12886488535604756494
 nx:=Fast.tw9404975358583537561
 lt:=Fast.tw1578499551869305889
 as:=Fast.tw17772580674575903948
theorem Hm:PySem.code "list"=1970563693:=by decide +kernel
theorem zW:OpsOk Lr where
 bnd:=by intros;show R.bindR=_;rw[R.bindR_eq]
 on:=by intros;show R.onRaiseR=_;rw[R.onRaiseR_eq]
 ev:=Fast.te14044960220447912780.symm
 tr:=Fast.te15418851999007992765.symm
 ex:=Fast.te12563942051412417395.symm
 ty:=Fast.te14684505520029207082.symm
 tt:=Fast.te15245631507167962100.symm
 isL:=fun v h=>by
  cases v with
  |type s=>exact congrArg Value.type (ue Hm h)
  |_=>cases h
 cl:=by
  funext f pos kw
  show Sem.call _ _ _ _ _=Sem.call _ _ _ _ _
  refine congrArg (Sem.call _ _ _ _) (funext fun r=>?_)
  cases r with
  |ok fl=>cases fl<;>rfl
  |error e=>rfl
 cm:=Fast.te12886488535604756494.symm
 nx:=Fast.te9404975358583537561.symm
 lt:=Fast.te1578499551869305889.symm
 as:=Fast.te17772580674575903948.symm
noncomputable def Hc (P:Params)(b:Bool):Params:={P with followText:=fun r=>match S.eqLit hq0 r with|true=>b|false=>P.followText r}
theorem Gu (P:Params):Hc P (P.followText "special-get-raises")=P:=by
 unfold Hc
 have:(fun r=>match S.eqLit hq0 r with|true=>P.followText "special-get-raises"|false=>P.followText r)=P.followText:=by
  funext r
  cases q:S.eqLit hq0 r with
  |false=>rfl
  |true=>rw[ue JS q]
 rw[this]
noncomputable def jG (prog:Program)(kt:KT)(P:Params)(lim:Nat)(fr:Option (List Env)):Cfg where
 st b:=⟨prog,Hc P b⟩
 kt:=kt
 dn:=Fast.tw11892475500146522536 Fast.tw14364793385576792824
 fn:=XX
 fb:=Ym
 wl:=Fast.tw12362719219628433562
 fbR:=QM Lr
 flR:=forR Lr
 clR:=Oz Lr
 qt:=YD
 lim:=lim
 fr:=fr
theorem oY (prog:Program)(w:World)(kt:KT)(lim:Nat)(fr:Option (List Env)):Sound (jG prog kt w.params lim fr) prog w where
 dn:=by show Fast.tw11892475500146522536 Fast.tw14364793385576792824=_;rw[←Fast.te11892475500146522536,←Fast.te14364793385576792824,table_eq_tree]
 fn:=QC
 fb:=QW
 wl:=Fast.te12362719219628433562.symm
 fbR:=My zW
 flR:=Mq zW
 clR:=I3 zW
 qt:=fun _ h=>QK h
 st:=⟨w.params.followText "special-get-raises",by show(⟨prog,Hc w.params _⟩:Setting)=_;rw[Gu]⟩
noncomputable abbrev aH:Program:=PySem.Challenge.rw_mj0282_01.prog
noncomputable abbrev Ci:String:=SL.s14018661285674007319x4
noncomputable abbrev iD:String:=SL.s658472552662922059x5
noncomputable abbrev qZ:String:=SL.s9222952809800978799x4
noncomputable abbrev JK:String:=SL.s2766695959194262286x5
noncomputable abbrev vf:String:=SL.s3492446563574874994x13
noncomputable abbrev xG:String:=SL.s4674234679698826739x5
noncomputable abbrev Hk:=Nat→Int×Nat
noncomputable abbrev Tks:=Nat→Nat
noncomputable def ents (k:Hk):Nat→List (Str×Value)→List DictEntry
 |_,[]=>[]
 |i,p::l=>⟨(k i).1,.str p.1 (k i).2,p.2⟩::ents k (i+1) l
noncomputable def nZ (cls:String)(k:Hk)(ep:Nat)(l:List (Str×Value)):Obj:=⟨.type cls,none,.dict ⟨ents k 0 l⟩ ep,#[]⟩
noncomputable def aC (c d:Addr):Obj:=⟨.ref c,some d,.plain,#[]⟩
noncomputable def aa (ep:Nat)(vs:List Value):Obj:=⟨.type qZ,none,.seq ⟨vs⟩ ep,#[]⟩
noncomputable def gV:List DictEntry→Nat→DictEntry
 |[],_=>⟨0,.none,.none⟩
 |e::_,0=>e
 |_::l,n+1=>gV l n
noncomputable def fM (o:Obj):List DictEntry:=match o.data with
 |.dict es _=>es.toList
 |_=>[]
noncomputable def tokV:Value→Nat
 |.int _ t=>t
 |.str _ t=>t
 |_=>0
noncomputable def aP (o:Obj):Hk:=fun i=>((gV (fM o) i).hash,tokV (gV (fM o) i).key)
noncomputable def aN (o:Obj):Tks:=fun i=>tokV (gV (fM o) i).val
noncomputable def jM (o:Obj):Nat:=match o.data with
 |.dict _ n=>n
 |.seq _ n=>n
 |_=>0
noncomputable def yx:List Value→Nat→Value
 |[],_=>.none
 |v::_,0=>v
 |_::l,n+1=>yx l n
noncomputable def MT (c:Code)(i:Nat):Value:=match c with
 |.call _ a=>yx a.pos i
 |.builtin _ a=>yx a.pos i
 |_=>.none
noncomputable def bH (c:Code)(i:Nat):Nat:=tokV (MT c i)
noncomputable def au (l:Led)(i:Nat):Obj:=match tY l i with
 |some p=>p.2
 |none=>⟨.none,none,.plain,#[]⟩
inductive TV where
 |done (f:Flow)
 |again (c:Code)
 |raise (e:Value)
 |other
noncomputable def EY:Sem Fin→TV
 |.pure (.done f)=>.done f
 |.pure (.again c)=>.again c
 |.raise e=>.raise e
 |_=>.other
noncomputable def J9:Kn→Bool
 |.base=>true
 |_=>false
noncomputable def oE:vQ→List Ob
 |[]=>[]
 |p::l=>p.1::oE l
noncomputable def rights:vQ→List Ob
 |[]=>[]
 |p::l=>p.2::rights l
noncomputable def K4:Res→Bool
 |.ok _=>true
 |.bad _ _=>false
noncomputable def fH:Res→Led
 |.ok σ=>σ.led
 |.bad _ _=>[]
noncomputable def dw:Res→Nat
 |.ok σ=>σ.Z
 |.bad _ _=>0
noncomputable def bk:Res→Nat
 |.ok σ=>σ.V
 |.bad _ _=>0
noncomputable def Cd:Res→TV
 |.ok σ=>EY σ.tree
 |.bad _ _=>.other
noncomputable def Oo:Res→Bool
 |.ok σ=>J9 σ.kont
 |.bad _ _=>false
noncomputable def cH:Res→vQ
 |.ok σ=>σ.ps
 |.bad _ _=>[]
noncomputable def rF:Res→bw
 |.ok σ=>σ.F
 |.bad _ _=>fun _ _=>False
noncomputable def Y7:Res→Nat
 |.ok _=>0
 |.bad l _=>l
noncomputable def Zc:Res→Nat
 |.ok _=>0
 |.bad _ t=>t
noncomputable def bh (P:Params)(fr:Option (List Env))(lim n h:Nat)(c:Code)(led:Led)(Z V:Nat)(ro:Led)(ant:Ant):Res:=
 enter (jG aH (ktop P) P lim fr) (lN (jG aH (ktop P) P lim fr) n) h c .base 0 led Z V ro ant (fun _ _=>False) []
noncomputable abbrev run (P:Params)(lim n h:Nat)(c:Code)(led:Led)(Z V:Nat)(ro:Led)(ant:Ant):Res:=bh P none lim n h c led Z V ro ant
noncomputable def iH (c:Code)(l:Led)(r:Value)(Z V:Nat):Ans:=⟨c,950,l,.ok (.ret r),[],[],fun _ _=>False,[],Z,V⟩
noncomputable abbrev An:=Ant→Ant
noncomputable def Zn (f:String)(args:Code→List Value)(r:Value):An:=fun k=>.cons 0 (fun c _ Z V=>iH (.call (.builtin f) ⟨args c,[]⟩) [] r Z V) fun _ _ _ _=>k
noncomputable def Y6 (s:Str)(n:Int):An:=fun k=>.cons 0 (fun c _ Z V=>iH (.call (.builtin "len") ⟨[.str s (bH c 0)],[]⟩) [] (.int n (V+1)) Z (V+2)) fun _ _ _ _=>k
noncomputable def Zb (f:String)(x y:Int)(b:Bool):An:=Zn f (fun c=>[.int x (bH c 0),.int y (bH c 1)]) (.bool b)
noncomputable def jn (a b:Value):Obj:=⟨.type xG,none,.fields ⟨[a,b,.none]⟩,#[]⟩
noncomputable def az (l:Led)(i:Nat):Addr:=match tY l i with
 |some p=>p.1
 |none=>0
noncomputable def tC (o:Obj):List Value:=match o.data with
 |.fields vs=>vs.toList
 |_=>[]
noncomputable def fL (o:Obj)(i:Nat):Nat:=tokV (yx (tC o) i)
noncomputable def Xo (m:Nat)(s:Str)(a b:Int)(r:Str):An:=fun k=>.cons m (fun c l Z V=>iH (.call (.builtin "str.__getitem__") ⟨[.str s (bH c 0),.ref (az l 0)],[]⟩) [(az l 0,jn (.int a (fL (au l 0) 0)) (.int b (fL (au l 0) 1)))] (.str r V) Z (V+1)) fun _ _ _ _=>k
noncomputable def Jl:Str:=nm [95,83,116,114,105,110,103,73,79,95,95,110,101,119,108,105,110,101]
noncomputable def X3:Str:=nm [95,83,116,114,105,110,103,73,79,95,95,98,117,102]
noncomputable def Ye:Str:=nm [95,83,116,114,105,110,103,73,79,95,95,112,111,115]
noncomputable def bV (k:Hk)(t:Tks)(buf:Str)(pos:Int):Obj:=nZ Ci k 3 [(Jl,.str (nm [10]) (t 0)),(X3,.str buf (t 1)),(Ye,.int pos (t 2))]
noncomputable def vw (R:Res)(m:Nat):Bool×Bool×TV×Led×List Ob:=(K4 R,Oo R,Cd R,di m (fH R),oE (cH R))
noncomputable def rObj (R:Res)(i:Nat):Obj:=au (fH R) i
noncomputable def ak (R:Res)(i:Nat):Hk:=aP (rObj R i)
noncomputable def aq (R:Res)(i:Nat):Tks:=aN (rObj R i)
noncomputable def Xy (R:Res):Value:=match Cd R with
 |.done (.ret v)=>v
 |.raise v=>v
 |_=>.none
noncomputable def iW (R:Res):Nat:=tokV (Xy R)
structure Fa (R:Res)(m:Nat)(t:TV)(L:Res→Led)(Z V:Nat):Prop where
 eq:(vw R m,dw R,bk R)=((true,true,t,L R,rights (cH R)),Z,V)
theorem Fa.ex {r:Res}{m:Nat}{t:TV}{L:Res→Led}{Z V:Nat}(h:Fa r m t L Z V):∃R:Res,r=R∧vw R m=(true,true,t,L R,rights (cH R))∧dw R=Z∧bk R=V:=
 ⟨r,rfl,congrArg (·.1) h.eq,congrArg (·.2.1) h.eq,congrArg (·.2.2) h.eq⟩
structure Fb (R:Res)(m:Nat)(t:TV)(L:Res→Led):Prop where
 eq:vw R m=(true,true,t,L R,rights (cH R))
theorem Fb.ex {r:Res}{m:Nat}{t:TV}{L:Res→Led}(h:Fb r m t L):∃R:Res,r=R∧vw R m=(true,true,t,L R,rights (cH R)):=⟨r,rfl,h.eq⟩
section
theorem zc:∀{ps:vQ},oE ps=rights ps→∀p∈ps,p.1=p.2
 |[],_,_,h=>nomatch h
 |q::ps,e,p,hp=>by
  injection e with e1 e2
  rcases List.mem_cons.mp hp with h|h
  ·subst h;exact e1
  ·exact zc e2 p h
section
variable {w:World} {J:Array GenState} {dr:Drawn} {os:Osw}
variable {F F' F'':bw} {led led' led'':Led} {Z V Z' V':Nat}
theorem Rel.anti {s:Shared}(r:Rel F' J dr os led Z V s)(h:∀b o,F b o→F' b o):Rel F J dr os led Z V s:=
 ⟨r.size,fun b o x=>r.keep b o (h b o x),r.own,fun p hp o x=>r.apart p hp o (h _ _ x),r.nd,r.rest,fun p hp=>let ⟨h1,h2,h3⟩:=r.wf p hp;⟨h1,fun o x=>h2 o (h _ _ x),h3⟩⟩
theorem Rel.push {s:Shared}(r:Rel F J dr os led Z V s){o:Obj}(hf:o.isFreed=false):Rel F J dr os (led++[(Z,o)]) (Z+1) V {s with heap:=s.heap.push o}:=by
 have:=r.alloc hf
 rwa [lO] at this
theorem lU {fr:Option (List Env)}{lim n h:Nat}{c:Code}{ro:Led}{ant:Ant}{σ:St}(hkt:∀a o,(ktop w.params).get a=some o→F a o)(hro:∀p∈ro,F p.1 p.2)(hant:aA aH w J dr os F ant)(e:bh w.params fr lim n h c led Z V ro ant=.ok σ)(hp:oE σ.ps=rights σ.ps){A:Around}(hA:A.depth≤lim)(hU:A.units≤2*lim)(hh:A.handled=none)(hfr:∀l,fr=some l→A.frames=some l){R₀:Result→Shared→Prop}(hend:∀s',Rel (aj F σ.F) J dr os σ.led σ.Z σ.V s'→d9 aH w A R₀ σ.code σ.kont σ.tree s'){s:Shared}(r:Rel F J dr os led Z V s):
  codeAny (model aH w) A c R₀ s:=Hw (oY aH w (ktop w.params) lim fr) ⟨hA,hU,hh,hfr⟩ ⟨rfl,hant,hro,hkt⟩ e (zc hp) hend r
theorem gF (t:Sem Fin):match EY t with
  |.done f=>t=.pure (.done f)
  |.again c=>t=.pure (.again c)
  |.raise v=>t=.raise v
  |_=>True:=by
 cases t with
 |pure fin=>cases fin<;>rfl
 |raise v=>rfl
 |_=>trivial
theorem sZ {t:Sem Fin}{f:Flow}(h:EY t=.done f):t=.pure (.done f):=by
 have x:=gF t
 rw[h] at x
 exact x
theorem nG {t:Sem Fin}{c:Code}(h:EY t=.again c):t=.pure (.again c):=by
 have x:=gF t
 rw[h] at x
 exact x
theorem vP {t:Sem Fin}{v:Value}(h:EY t=.raise v):t=.raise v:=by
 have x:=gF t
 rw[h] at x
 exact x
theorem rJ {κ:Kn}(h:J9 κ=true):κ=.base:=by
 cases κ with
 |base=>rfl
 |_=>cases h
theorem bT {R:Res}{m:Nat}{b b':Bool}{tv:TV}{obs:List Ob}(H:vw R m=(b,b',tv,led',obs)):K4 R=b∧Oo R=b'∧Cd R=tv∧di m (fH R)=led'∧oE (cH R)=obs:=by
 unfold vw at H
 simp only[Prod.mk.injEq] at H
 exact H
theorem yq {lim n h:Nat}{c:Code}{ro:Led}{ant:Ant}{m:Nat}{f:Flow}{R:Res}(hR:run w.params lim n h c led Z V ro ant=R)(H:vw R m=(true,true,.done f,led',rights (cH R)))(hkt:∀a o,(ktop w.params).get a=some o→F a o)(hro:∀p∈ro,F p.1 p.2)(hant:aA aH w J dr os F ant):
  jO aH w J dr os lim c F led Z V (.ok f) (frame (aj F (rF R)) (iQ m (fH R))) led' (dw R) (bk R):=by
 intro A hA hU hh s r
 refine dm (bT H) fun h1 h2 h3 h4 h5=>?_
 cases R with
 |bad _ _=>cases h1
 |ok σ=>
  have e:=hR
  refine lU hkt hro hant e h5 hA hU hh (fun _ q=>nomatch q) (fun s' r'=>?_) r
  rw[sZ h3,rJ h2]
  have r2:=r'.small m
  have h4':di m σ.led=led':=h4
  rw[h4'] at r2
  exact fun _ _ _ _=>⟨rfl,r2⟩
theorem HW {lim n h:Nat}{c c':Code}{ro:Led}{ant:Ant}{m:Nat}{r:Result}{R:Res}(hR:run w.params lim n h c led Z V ro ant=R)(H:vw R m=(true,true,.again c',led',rights (cH R)))(hq:c'.quiet=true)(hkt:∀a o,(ktop w.params).get a=some o→F a o)(hro:∀p∈ro,F p.1 p.2)(hant:aA aH w J dr os F ant)(K:jO aH w J dr os lim c' (frame (aj F (rF R)) (iQ m (fH R))) led' (dw R) (bk R) r F' led'' Z' V'):
  jO aH w J dr os lim c F led Z V r F' led'' Z' V':=by
 intro A hA hU hh s rl
 refine dm (bT H) fun h1 h2 h3 h4 h5=>?_
 cases R with
 |bad _ _=>cases h1
 |ok σ=>
  have e:=hR
  refine lU hkt hro hant e h5 hA hU hh (fun _ q=>nomatch q) (fun s' r'=>?_) rl
  rw[nG h3,rJ h2]
  have r2:=r'.small m
  have h4':di m σ.led=led':=h4
  rw[h4'] at r2
  exact fun _ _ _ _=>⟨hq,K A hA hU hh s' r2⟩
theorem jO.post {lim:Nat}{c:Code}{r:Result}(K:jO aH w J dr os lim c F led Z V r F' led' Z' V')(h:∀s,Rel F' J dr os led' Z' V' s→Rel F'' J dr os led'' Z' V' s):
  jO aH w J dr os lim c F led Z V r F'' led'' Z' V':=fun A hA hU hh s rl Γ p hc hΓ=>wpCode_mono (fun _ s' x=>⟨x.1,h s' x.2⟩) (K A hA hU hh s rl Γ p hc hΓ)
theorem jO.lower {lim lim':Nat}{c:Code}{r:Result}(K:jO aH w J dr os lim c F led Z V r F' led' Z' V')(h:lim'≤lim):
  jO aH w J dr os lim' c F led Z V r F' led' Z' V':=fun A hA hU hh s rl=>K A (Nat.le_trans hA h) (Nat.le_trans hU (Nat.mul_le_mul_left 2 h)) hh s rl
theorem jN {lim n h:Nat}{c:Code}{ro:Led}{ant:Ant}{m:Nat}{f:Flow}{objs:List Obj}{new:Led}{R:Res}(hR:run w.params lim n h c led Z V ro ant=R)(H:vw R m=(true,true,.done f,gQ led objs++new,rights (cH R)))(hkt:∀a o,(ktop w.params).get a=some o→F a o)(hro:∀p∈ro,F p.1 p.2)(hant:∀Fz:bw,(∀b o,F b o→Fz b o)→aA aH w J dr os Fz ant):
  bu aH w J dr os F ⟨c,lim,led,.ok f,objs,new,fun _ _=>False,[],dw R,bk R⟩ Z V:=by
 refine⟨fun _ _ h=>h.elim,fun _ h=>(nomatch h),fun Fz hF=>?_⟩
 refine(yq (F:=Fz) hR H (fun a o h=>hF _ _ (hkt a o h)) (fun p hp=>hF _ _ (hro p hp)) (hant Fz hF)).post fun s r=>?_
 rw[bJ]
 exact r.anti fun b o h=>.inl (.inl h)
section leaf
variable {id:String} {args:Args} {b:Builtin}
theorem bj {S:PySem.Spec}(hb:entryFor table id=some b)(hp:plainId id=true)(g:Meets (b args) S){A:Around}{R:Result→Shared→Prop}{s:Shared}(h:S A R s):codeAny (model aH w) A (.builtin id args) R s:=by
 refine codeAny_of_tree ?_
 rw[Around.under_plainId hp args]
 show wpAny _ _ (match entryFor table id with|some b=>b args|none=>unsupported ((withoutEnding? id "#data").getD id)) _ _ s
 rw[hb]
 exact g aH w A R s h
theorem j5 {m:Made}(hb:entryFor table id=some b)(hp:plainId id=true)(g:Gives (b args) m){A:Around}{R:Result→Shared→Prop}{s:Shared}(h:m.post (fun v s'=>R (.ok (.ret v)) s') s):codeAny (model aH w) A (.builtin id args) R s:=
 bj hb hp g.meets h
theorem pI:∀l:Led,gQ l []=l
 |[]=>rfl
 |p::l=>congrArg (p::·) (pI l)
theorem mq {c:Code}{l:Led}{v:Value}(h:∀(Fz:bw) (A:Around) (s:Shared),A.units≤1900→Rel Fz J dr os l Z V s→codeAny (model aH w) A c (fun r' s'=>r'=.ok (.ret v)∧Rel Fz J dr os l Z' V' s') s):bu aH w J dr os F (iH c l v Z' V') Z V:=by
 refine⟨fun _ _ h=>h.elim,fun _ h=>(nomatch h),fun Fz _ A hA hU hh s r=>?_⟩
 have:=h Fz A s hU r
 show codeAny _ A c (fun r' s'=>r'=.ok (.ret v)∧Rel (aj Fz (fun _ _=>False)) J dr os (gQ l []++[]) Z' V' s') s
 rw[bJ,pI,List.append_nil]
 exact this
theorem j9 {v:Value}(hb:entryFor table id=some b)(hp:plainId id=true)(g:Gives (b args) (.val v)):bu aH w J dr os F (iH (.builtin id args) [] v Z V) Z V:=
 mq fun Fz A s _ r=>j5 hb hp g ⟨rfl,r⟩
theorem Xj {i:Int}(hb:entryFor table id=some b)(hp:plainId id=true)(g:Gives (b args) (.int i)):bu aH w J dr os F (iH (.builtin id args) [] (.int i V) Z (V+1)) Z V:=
 mq fun Fz A s _ r=>j5 hb hp g ⟨by rw[r.toks],r.fresh 1⟩
theorem Gr {x:Str}(hb:entryFor table id=some b)(hp:plainId id=true)(g:Gives (b args) (.str x))(hx:x.length≤sizeLine):bu aH w J dr os F (iH (.builtin id args) [] (.str x V) Z (V+1)) Z V:=
 mq fun Fz A s _ r=>j5 hb hp g ⟨hx,by rw[r.toks],r.fresh 1⟩
end leaf
end
end
section
open Builtin Builtin.Str Builtin.Int
theorem Y0:Ci = "dict":=SL.e14018661285674007319x4.symm
theorem Yn:iD = "frame":=SL.e658472552662922059x5.symm
theorem Cq:qZ = "list":=SL.e9222952809800978799x4.symm
theorem Du:JK = "tuple":=SL.e2766695959194262286x5.symm
theorem GR:vf = "list_iterator":=SL.e3492446563574874994x13.symm
theorem zH:xG = "slice":=SL.e4674234679698826739x5.symm
section
variable {w:World} {J:Array GenState} {dr:Drawn} {os:Osw} {F:bw} {k:Ant}
theorem aV {m:Nat}{f:Code→Led→Nat→Nat→Ans}(hX:∀c l Z V,(f c l Z V).X=fun _ _=>False)(hf:∀c l Z V,bu aH w J dr os F (f c l Z V) Z V)(hk:aA aH w J dr os F k):
  aA aH w J dr os F (.cons m f fun _ _ _ _=>k):=fun c l Z V=>⟨hf c l Z V,by rw[hX,bJ];exact hk⟩
noncomputable def Kc (x y:Int)(b:Bool):An:=fun k=>.cons 0 (fun c _ Z V=>iH (.builtin "int.__ge__" ⟨[.int x (bH c 0),.int y (bH c 1)],[]⟩) [] (.bool b) Z V) fun _ _ _ _=>k
theorem Eu {x y:Int}{b:Bool}(h:decide (x≥y)=b)(hk:aA aH w J dr os F k):aA aH w J dr os F (Kc x y b k):=
 aV (fun _ _ _ _=>rfl) (fun _ _ _ _=>j9 (entryFor_of_fast (by kernel_rfl)) (by decide +kernel) (h▸gives_int_ge x y _ _)) hk
noncomputable def jL (x y:Int)(b:Bool):An:=fun k=>.cons 0 (fun c _ Z V=>iH (.builtin "int.__gt__" ⟨[.int x (bH c 0),.int y (bH c 1)],[]⟩) [] (.bool b) Z V) fun _ _ _ _=>k
theorem qj {x y:Int}{b:Bool}(h:decide (x>y)=b)(hk:aA aH w J dr os F k):aA aH w J dr os F (jL x y b k):=
 aV (fun _ _ _ _=>rfl) (fun _ _ _ _=>j9 (entryFor_of_fast (by kernel_rfl)) (by decide +kernel) (h▸gives_int_gt x y _ _)) hk
noncomputable def JX (x y:Int)(b:Bool):An:=fun k=>.cons 0 (fun c _ Z V=>iH (.builtin "int.__lt__" ⟨[.int x (bH c 0),.int y (bH c 1)],[]⟩) [] (.bool b) Z V) fun _ _ _ _=>k
theorem Fq {x y:Int}{b:Bool}(h:decide (x<y)=b)(hk:aA aH w J dr os F k):aA aH w J dr os F (JX x y b k):=
 aV (fun _ _ _ _=>rfl) (fun _ _ _ _=>j9 (entryFor_of_fast (by kernel_rfl)) (by decide +kernel) (h▸gives_int_lt x y _ _)) hk
noncomputable def Yr (x y:Int)(b:Bool):An:=fun k=>.cons 0 (fun c _ Z V=>iH (.builtin "int.__le__" ⟨[.int x (bH c 0),.int y (bH c 1)],[]⟩) [] (.bool b) Z V) fun _ _ _ _=>k
theorem Ze {x y:Int}{b:Bool}(h:decide (x≤y)=b)(hk:aA aH w J dr os F k):aA aH w J dr os F (Yr x y b k):=
 aV (fun _ _ _ _=>rfl) (fun _ _ _ _=>j9 (entryFor_of_fast (by kernel_rfl)) (by decide +kernel) (h▸gives_int_le x y _ _)) hk
noncomputable def T7 (x y:Int)(b:Bool):An:=fun k=>.cons 0 (fun c _ Z V=>iH (.builtin "int.__eq__" ⟨[.int x (bH c 0),.int y (bH c 1)],[]⟩) [] (.bool b) Z V) fun _ _ _ _=>k
theorem WL {x y:Int}{b:Bool}(h:(x==y)=b)(hk:aA aH w J dr os F k):aA aH w J dr os F (T7 x y b k):=
 aV (fun _ _ _ _=>rfl) (fun _ _ _ _=>j9 (entryFor_of_fast (by kernel_rfl)) (by decide +kernel) (h▸gives_int_eq x y _ _)) hk
noncomputable def Xx (x y:Int)(b:Bool):An:=fun k=>.cons 0 (fun c _ Z V=>iH (.builtin "int.__ne__" ⟨[.int x (bH c 0),.int y (bH c 1)],[]⟩) [] (.bool b) Z V) fun _ _ _ _=>k
theorem Y5 {x y:Int}{b:Bool}(h:(x != y)=b)(hk:aA aH w J dr os F k):aA aH w J dr os F (Xx x y b k):=
 aV (fun _ _ _ _=>rfl) (fun _ _ _ _=>j9 (entryFor_of_fast (by kernel_rfl)) (by decide +kernel) (h▸gives_int_ne x y _ _)) hk
noncomputable def bN (x y:Str)(b:Bool):An:=fun k=>.cons 0 (fun c _ Z V=>iH (.builtin "str.__eq__" ⟨[.str x (bH c 0),.str y (bH c 1)],[]⟩) [] (.bool b) Z V) fun _ _ _ _=>k
theorem gm {x y:Str}{b:Bool}(h:(x.cps.toList==y.cps.toList)=b)(hk:aA aH w J dr os F k):aA aH w J dr os F (bN x y b k):=
 aV (fun _ _ _ _=>rfl) (fun _ _ _ _=>j9 (entryFor_of_fast (by kernel_rfl)) (by decide +kernel) (h▸gives_str_eq x y _ _)) hk
noncomputable def iK (x y:Str)(b:Bool):An:=fun k=>.cons 0 (fun c _ Z V=>iH (.builtin "str.__ne__" ⟨[.str x (bH c 0),.str y (bH c 1)],[]⟩) [] (.bool b) Z V) fun _ _ _ _=>k
theorem pZ {x y:Str}{b:Bool}(h:(x.cps.toList != y.cps.toList)=b)(hk:aA aH w J dr os F k):aA aH w J dr os F (iK x y b k):=
 aV (fun _ _ _ _=>rfl) (fun _ _ _ _=>j9 (entryFor_of_fast (by kernel_rfl)) (by decide +kernel) (h▸gives_str_ne x y _ _)) hk
noncomputable def bL (x y:Str)(b:Bool):An:=fun k=>.cons 0 (fun c _ Z V=>iH (.builtin "str.__contains__" ⟨[.str x (bH c 0),.str y (bH c 1)],[]⟩) [] (.bool b) Z V) fun _ _ _ _=>k
theorem RG {x y:Str}{b:Bool}(h:(!(occurrences x y 0 x.length 1).isEmpty)=b)(hk:aA aH w J dr os F k):aA aH w J dr os F (bL x y b k):=
 aV (fun _ _ _ _=>rfl) (fun _ _ _ _=>j9 (entryFor_of_fast (by kernel_rfl)) (by decide +kernel) (h▸gives_str_contains x y _ _)) hk
noncomputable def zg (x y z:Str):An:=fun k=>.cons 0 (fun c _ Z V=>iH (.builtin "str.__add__" ⟨[.str x (bH c 0),.str y (bH c 1)],[]⟩) [] (.str z V) Z (V+1)) fun _ _ _ _=>k
theorem Qc {x y z:Str}(hx:(x.length==0)=false)(hy:(y.length==0)=false)(hz:x++y=z)(hl:z.length≤sizeLine)(hk:aA aH w J dr os F k):aA aH w J dr os F (zg x y z k):=by
 refine aV (fun _ _ _ _=>rfl) (fun c _ _ _=>Gr (b:=«str.__add__») (entryFor_of_fast (by kernel_rfl)) (by decide +kernel) ?_ hl) hk
 have g:=gives_str_add x y (bH c 0) (bH c 1)
 rw[hx,hy,hz] at g
 exact g
noncomputable def wN (y:Str):An:=fun k=>.cons 0 (fun c _ Z V=>iH (.builtin "str.__add__" ⟨[.str Str.empty (bH c 0),.str y (bH c 1)],[]⟩) [] (.str y (bH c 1)) Z V) fun _ _ _ _=>k
theorem nj {y:Str}(hk:aA aH w J dr os F k):aA aH w J dr os F (wN y k):=
 aV (fun _ _ _ _=>rfl) (fun c _ _ _=>j9 (entryFor_of_fast (by kernel_rfl)) (by decide +kernel) (gives_str_add Str.empty y (bH c 0) (bH c 1))) hk
noncomputable def aU (s:Str)(n:Int):An:=fun k=>.cons 0 (fun c _ Z V=>iH (.builtin "len" ⟨[.str s (bH c 0)],[]⟩) [] (.int n (V+1)) Z (V+2)) fun _ _ _ _=>k
theorem Am {A:Around}{E:Value→Shared→Prop}{s:Shared}{x:Str}{t:Tok}{Q:Value→Shared→Prop}(hfit:¬(x.length:Int)≥2 ^ 63)(h:Q (.int x.length (s.toks+1)) {s with toks:=s.toks+1+1}):
  wpAny (model aH w) A (Builtin.«len» ⟨[.str x t],[]⟩) (fun fin s'=>∃r,fin=.done (.ret r)∧Q r s') E s:=by
 unfold Builtin.«len»
 refine wpAny_bind (m:=oneArg "len" _) (wpAny_pure ?_)
 refine wpAny_bind (m:=callSpecial? (.str x t) (Str.ofString "__len__")) (wpAny_callSpecial?_slot (name:=Str.ofString "__len__") (typeIs_str s x t) F.slot_str_len (call_gives F.slot_str_len (typeIs_str s x t) F.entry_str_len (F.args_str_len_1 _) (gives_str_len x t) ?_))
 show wpAny _ _ _ _ _ {s with toks:=s.toks+1}
 refine wpAny_bind (wpAny_holding (wpAny_pure ?_))
 refine wpAny_bind (wpAny_letGo ?_)
 show wpAny _ _ (if((x.length:Nat):Int)<0 then _ else _) _ _ _
 rw[if_neg (by lia)]
 show wpAny _ _ (if((x.length:Nat):Int)≥2 ^ 63 then _ else _) _ _ _
 rw[if_neg hfit]
 exact wpAny_bind (wpAny_mkInt (wpAny_pure ⟨_,rfl,h⟩))
theorem fC {id:String}{args:Args}{b:Builtin}(hb:entryFor table id=some b)(hp:plainId id=true){A:Around}{R:Result→Shared→Prop}{s:Shared}(h:wpAny (model aH w) A.in1 (b args) (fun fin s'=>∃r,fin=.done (.ret r)∧R (.ok (.ret r)) s') (fun e s'=>R (.error e) s') s):codeAny (model aH w) A (.builtin id args) R s:=by
 refine codeAny_of_tree ?_
 rw[Around.under_plainId hp args]
 show wpAny _ _ (match entryFor table id with|some b=>b args|none=>unsupported ((withoutEnding? id "#data").getD id)) _ _ s
 rw[hb]
 exact wpAny_mono h (fun fin s' x=>by refine aL x fun r er4 y=>?_;subst er4;exact y) fun _ _ x=>x
theorem bY {s:Str}{n:Int}(h:(s.length:Int)=n)(hl:s.length≤sizeLine)(hk:aA aH w J dr os F k):aA aH w J dr os F (aU s n k):=by
 subst h
 refine aV (fun _ _ _ _=>rfl) (fun c _ Z V=>mq fun Fz A s' _ r=>fC (entryFor_of_fast (by kernel_rfl)) (by decide +kernel) (Am ?_ ?_)) hk
 ·have:sizeLine=16777216:=rfl
  have e:(2:Int) ^ 63=9223372036854775808:=rfl
  rw[e]
  lia
 ·exact⟨by rw[r.toks],r.fresh 2⟩
noncomputable def W4 (o:Obj):List Value:=match o.data with
 |.seq vs _=>vs.toList
 |_=>[]
noncomputable def cZ (o:Obj)(i:Nat):Nat:=tokV (yx (W4 o) i)
noncomputable def iY (vs:List Value):Obj:=⟨.type JK,none,.seq ⟨vs⟩ 0,#[]⟩
noncomputable def qN (m:Nat)(x y z:Str)(b:Bool):An:=fun k=>.cons m (fun c l Z V=>iH (.builtin "tuple.__contains__" ⟨[.ref (az l 0),.str x (bH c 1)],[]⟩) [(az l 0,iY [.str y (cZ (au l 0) 0),.str z (cZ (au l 0) 1)])] (.bool b) Z V) fun _ _ _ _=>k
noncomputable def Pa (x:Str):Value→Bool
 |.str y _=>y.cps.toList==x.cps.toList
 |_=>false
theorem jw {m:Nat}{x y z:Str}{b:Bool}(h:(y.cps.toList==x.cps.toList||z.cps.toList==x.cps.toList)=b)(hk:aA aH w J dr os F k):aA aH w J dr os F (qN m x y z b k):=by
 refine aV (fun _ _ _ _=>rfl) (fun c l Z V=>mq fun Fz A s' _ r=>bj (entryFor_of_fast (by kernel_rfl)) (by decide +kernel)
  (MeetsSeq2.tuple_contains (az l 0) #[.str y (cZ (au l 0) 0),.str z (cZ (au l 0) 1)] 0 (.str x (bH c 1)) (Pa x) ?_) ⟨?_,?_⟩) hk
 ·intro v hv
  simp only[List.mem_toArray,List.mem_cons,List.not_mem_nil,or_false] at hv
  rcases hv with rfl|rfl
  ·exact SeqRoads2.EqGives.str y x _ _
  ·exact SeqRoads2.EqGives.str z x _ _
 ·have:=r.own _ (.head _)
  rw[this]
  show some (iY _)=_
  unfold iY
  rw[Du]
 ·refine⟨?_,r⟩
  rw[←h]
  simp[Pa]
noncomputable def J4 (m:Nat)(s:Str)(a b:Int)(z:Str):An:=fun k=>.cons m (fun c l Z V=>iH (.builtin "str.__getitem__" ⟨[.str s (bH c 0),.ref (az l 0)],[]⟩) [(az l 0,jn (.int a (fL (au l 0) 0)) (.int b (fL (au l 0) 1)))] (.str z V) Z (V+1)) fun _ _ _ _=>k
theorem KD {m:Nat}{s z:Str}{a b:Int}(hn:((strSliceIndices (some a) (some b) 1 s.length).length==s.length)=false)(hz:(⟨((strSliceIndices (some a) (some b) 1 s.length).filterMap (s.cps[·]?)).toArray⟩:Str)=z)(hl:z.length≤sizeLine)(hk:aA aH w J dr os F k):aA aH w J dr os F (J4 m s a b z k):=by
 refine aV (fun _ _ _ _=>rfl) (fun c l Z V=>mq fun Fz A s' _ r=>bj (entryFor_of_fast (by kernel_rfl)) (by decide +kernel) (meets_str_getitem_slice s (bH c 0) (az l 0) (some (a,fL (au l 0) 0)) (some (b,fL (au l 0) 1)) none rfl) ⟨⟨_,r.own _ (.head _),by show Value.type xG=_;rw[zH],rfl⟩,?_⟩) hk
 unfold sliceMade slicePicked
 show(if((1==1:Bool)&&(strSliceIndices (some a) (some b) 1 s.length).length==s.length)=true then Made.val (.str s (bH c 0)) else .str ⟨((strSliceIndices (some a) (some b) 1 s.length).filterMap (s.cps[·]?)).toArray⟩).post _ s'
 rw[hn,hz]
 exact⟨hl,by rw[r.toks],r.fresh 1⟩
end
end
section
open Builtin Builtin.Str Builtin.Int
noncomputable def Iu (m:Nat)(s:Str)(a b:Int):An:=fun k=>.cons m (fun c l Z V=>iH (.builtin "str.__getitem__" ⟨[.str s (bH c 0),.ref (az l 0)],[]⟩) [(az l 0,jn (.int a (fL (au l 0) 0)) (.int b (fL (au l 0) 1)))] (.str s (bH c 0)) Z V) fun _ _ _ _=>k
section
variable {w:World} {J:Array GenState} {dr:Drawn} {os:Osw} {F:bw} {k:Ant}
theorem Mg {m:Nat}{s:Str}{a b:Int}(hn:((strSliceIndices (some a) (some b) 1 s.length).length==s.length)=true)(hk:aA aH w J dr os F k):aA aH w J dr os F (Iu m s a b k):=by
 refine aV (fun _ _ _ _=>rfl) (fun c l Z V=>mq fun Fz A s' _ r=>bj (entryFor_of_fast (by kernel_rfl)) (by decide +kernel) (meets_str_getitem_slice s (bH c 0) (az l 0) (some (a,fL (au l 0) 0)) (some (b,fL (au l 0) 1)) none rfl) ⟨⟨_,r.own _ (.head _),by show Value.type xG=_;rw[zH],rfl⟩,?_⟩) hk
 unfold sliceMade slicePicked
 show(if((1==1:Bool)&&(strSliceIndices (some a) (some b) 1 s.length).length==s.length)=true then Made.val (.str s (bH c 0)) else .str ⟨((strSliceIndices (some a) (some b) 1 s.length).filterMap (s.cps[·]?)).toArray⟩).post _ s'
 rw[hn]
 exact⟨rfl,r⟩
end
theorem uB P k t buf pos len da ia at1 ch Z V:∃R,run P 800 392 (hc (hc (hc (hc (hc (hc 0x1000303 152 Jm) 8 0) 240 V5) 136 0x303030000030301000300000303000003) 1280 Yv) 16 0) (.call (.ref 620) ⟨[.ref ia,.int 1 at1],[]⟩) [(da,bV k t buf pos),(ia,aC 674 da)] Z V [] (aU buf len (Kc pos len false (JX (pos+1) len true (J4 32 buf pos (pos+1) ch .nil))))=R∧vw R 3=(true,true,.done (.ret (.str ch (iW R))),[(da,bV (ak R 0) (aq R 0) buf (pos+1)),(ia,aC 674 da)],rights (cH R)):=⟨_,rfl,by kernel_rfl⟩
theorem rP P k t buf pos len da ia at1 ch Z V:∃R,run P 800 375 hq1 (.call (.ref 620) ⟨[.ref ia,.int 1 at1],[]⟩) [(da,bV k t buf pos),(ia,aC 674 da)] Z V [] (aU buf len (Kc pos len false (JX (pos+1) len false (J4 32 buf pos len ch .nil))))=R∧vw R 3=(true,true,.done (.ret (.str ch (iW R))),[(da,bV (ak R 0) (aq R 0) buf len),(ia,aC 674 da)],rights (cH R)):=⟨_,rfl,by kernel_rfl⟩
theorem uL P k t buf pos len da ia at1 Z V:∃R,run P 800 375 hq1 (.call (.ref 620) ⟨[.ref ia,.int 1 at1],[]⟩) [(da,bV k t buf pos),(ia,aC 674 da)] Z V [] (aU buf len (Kc pos len false (JX (pos+1) len false (Iu 32 buf pos len .nil))))=R∧vw R 3=(true,true,.done (.ret (.str buf (iW R))),[(da,bV (ak R 0) (aq R 0) buf len),(ia,aC 674 da)],rights (cH R)):=⟨_,rfl,by kernel_rfl⟩
theorem uf P k t buf pos len da ia at1 Z V:∃R,run P 800 278 (hc Yv 16 0) (.call (.ref 620) ⟨[.ref ia,.int 1 at1],[]⟩) [(da,bV k t buf pos),(ia,aC 674 da)] Z V [] (aU buf len (Kc pos len true .nil))=R∧vw R 3=(true,true,.done (.ret (.str (nm []) (iW R))),[(da,bV (ak R 0) (aq R 0) buf pos),(ia,aC 674 da)],rights (cH R)):=⟨_,rfl,by kernel_rfl⟩
end
section
open Builtin Builtin.Str Builtin.Int
structure RdO where
 k:Hk
 t:Tks
 vt:Nat
 Z:Nat
 V:Nat
noncomputable def ou (l:List Nat)(i:Nat):Str:=match l[i]? with
 |some c=>nm [c]
 |none=>nm []
noncomputable def su (l:List Nat)(i:Nat):Nat:=if i<l.length then i+1 else i
theorem zB {i n:Nat}(h:i<n):strSliceIndices (some (i:Int)) (some ((i:Int)+1)) 1 n=[i]:=by
 have:=StrLaws.strSliceIndices_plain (a:=i) (b:=i+1) (len:=n) (by lia) (by lia)
 have e:((i+1:Nat):Int)=(i:Int)+1:=by lia
 rw[e] at this
 rw[this,Nat.add_sub_cancel_left]
 simp[List.range']
theorem zV (l:List Nat):(nm l).length=l.length:=rfl
theorem Kw:∀{l:List Nat} (h:l.length=0+1),nm l=nm [l[0]'(by lia)]
 |[_],_=>rfl
section
variable {w:World} {J:Array GenState} {dr:Drawn} {os:Osw} {F:bw}
theorem KH (hkt:∀a o,(ktop w.params).get a=some o→F a o)(l:List Nat)(hl:l.length≤100000)(i:Nat)(hi:i≤l.length)(k:Hk)(t:Tks)(da ia at1 Z V:Nat):
  ∃o:RdO,bu aH w J dr os F ⟨.call (.ref 620) ⟨[.ref ia,.int 1 at1],[]⟩,800,[(da,bV k t (nm l) i),(ia,aC 674 da)],.ok (.ret (.str (ou l i) o.vt)),
   [bV o.k o.t (nm l) (su l i),aC 674 da],[],fun _ _=>False,[],o.Z,o.V⟩ Z V:=by
 have hsz:(nm l).length≤sizeLine:=by rw[zV];have:sizeLine=16777216:=rfl;lia
 by_cases h1:i<l.length
 ·have hc:l[i]?=some l[i]:=List.getElem?_eq_getElem h1
  have hch:ou l i=nm [l[i]]:=by unfold ou;rw[hc]
  have hnp:su l i=i+1:=if_pos h1
  rw[hch,hnp]
  have hone:=zB (n:=(nm l).length) h1
  have hfm:(⟨((strSliceIndices (some (i:Int)) (some ((i:Int)+1)) 1 (nm l).length).filterMap ((nm l).cps[·]?)).toArray⟩:Str)=nm [l[i]]:=by
   rw[hone]
   have:(nm l).cps[i]?=some l[i]:=by rw[←hc];show(⟨l⟩:Array Nat)[i]?=l[i]?;simp
   rw[List.filterMap_cons,this];rfl
  by_cases h2:i+1<l.length
  ·refine aL (uB w.params k t (nm l) i l.length da ia at1 (nm [l[i]]) Z V) fun R hR H=>?_
   refine⟨⟨_,_,_,_,_⟩,jN (objs:=[bV _ _ (nm l) ((i+1:Nat):Int),aC 674 da]) (new:=[]) hR H hkt (fun _ h=>(nomatch h)) fun Fz _=>?_⟩
   refine bY rfl hsz (Eu ?_ (Fq ?_ (KD ?_ hfm ?_ trivial)))
   ·simp;lia
   ·simp;lia
   ·rw[hone,zV];simp;lia
   ·show 1≤sizeLine;decide
  ·have he:l.length=i+1:=by lia
   have hli:(l.length:Int)=(i:Int)+1:=by lia
   by_cases h3:i=0
   ·subst h3
    refine aL (uL w.params k t (nm l) 0 l.length da ia at1 Z V) fun R hR H=>?_
    have hlb:nm l=nm [l[0]]:=Kw he
    refine⟨⟨ak R 0,aq R 0,iW R,dw R,bk R⟩,?_⟩
    dsimp only
    rw[←hlb]
    have e1:((0+1:Nat):Int)=(l.length:Int):=by lia
    rw[e1]
    refine jN (objs:=[bV _ _ (nm l) (l.length:Int),aC 674 da]) (new:=[]) hR H hkt (fun _ h=>(nomatch h)) fun Fz _=>?_
    refine bY rfl hsz (Eu ?_ (Fq ?_ (Mg ?_ trivial)))
    ·exact decide_eq_false (by lia)
    ·exact decide_eq_false (by lia)
    ·have:(l.length:Int)=((0:Nat):Int)+1:=by lia
     rw[this]
     have z:=zB (i:=0) (n:=(nm l).length) h1
     have z':strSliceIndices (some 0) (some (((0:Nat):Int)+1)) 1 (nm l).length=[0]:=z
     rw[z',zV,he];rfl
   ·refine aL (rP w.params k t (nm l) i l.length da ia at1 (nm [l[i]]) Z V) fun R hR H=>?_
    refine⟨⟨ak R 0,aq R 0,iW R,dw R,bk R⟩,?_⟩
    dsimp only
    have e1:((i+1:Nat):Int)=(l.length:Int):=by lia
    rw[e1]
    refine jN (objs:=[bV _ _ (nm l) (l.length:Int),aC 674 da]) (new:=[]) hR H hkt (fun _ h=>(nomatch h)) fun Fz _=>?_
    refine bY rfl hsz (Eu ?_ (Fq ?_ ?_))
    ·simp;lia
    ·simp;lia
    ·rw[hli]
     refine KD ?_ hfm ?_ trivial
     ·rw[hone,zV];simp;lia
     ·show 1≤sizeLine;decide
 ·have he:i=l.length:=by lia
  have hc:l[i]?=none:=List.getElem?_eq_none (by lia)
  have hch:ou l i=nm []:=by unfold ou;rw[hc]
  have hnp:su l i=i:=if_neg h1
  rw[hch,hnp]
  refine aL (uf w.params k t (nm l) i l.length da ia at1 Z V) fun R hR H=>?_
  refine⟨⟨_,_,_,_,_⟩,jN (objs:=[bV _ _ (nm l) (i:Int),aC 674 da]) (new:=[]) hR H hkt (fun _ h=>(nomatch h)) fun Fz _=>?_⟩
  refine bY rfl hsz (Eu ?_ trivial)
  simp;lia
end
end
noncomputable def Vf:Str:=nm [105,110,115,116,114,101,97,109]
noncomputable def Us:Str:=nm [105,110,102,105,108,101]
noncomputable def Tq:Str:=nm [112,111,115,105,120]
noncomputable def Vo:Str:=nm [101,111,102]
noncomputable def Vc:Str:=nm [99,111,109,109,101,110,116,101,114,115]
noncomputable def W3:Str:=nm [119,111,114,100,99,104,97,114,115]
noncomputable def Vz:Str:=nm [119,104,105,116,101,115,112,97,99,101]
noncomputable def W8:Str:=nm [119,104,105,116,101,115,112,97,99,101,95,115,112,108,105,116]
noncomputable def Tp:Str:=nm [113,117,111,116,101,115]
noncomputable def Vj:Str:=nm [101,115,99,97,112,101]
noncomputable def QZ:Str:=nm [101,115,99,97,112,101,100,113,117,111,116,101,115]
noncomputable def Rx:Str:=nm [115,116,97,116,101]
noncomputable def Sq:Str:=nm [112,117,115,104,98,97,99,107]
noncomputable def Rm:Str:=nm [108,105,110,101,110,111]
noncomputable def PQ:Str:=nm [100,101,98,117,103]
noncomputable def Rr:Str:=nm [116,111,107,101,110]
noncomputable def Qk:Str:=nm [102,105,108,101,115,116,97,99,107]
noncomputable def RD:Str:=nm [115,111,117,114,99,101]
noncomputable def R9:Str:=nm [95,112,117,110,99,116,117,97,116,105,111,110,95,99,104,97,114,115]
noncomputable def g8:Str:=nm [97,98,99,100,102,101,103,104,105,106,107,108,109,110,111,112,113,114,115,116,117,118,119,120,121,122,65,66,67,68,69,70,71,72,73,74,75,76,77,78,79,80,81,82,83,84,85,86,87,88,89,90,48,49,50,51,52,53,54,55,56,57,95,223,224,225,226,227,228,229,230,231,232,233,234,235,236,237,238,239,240,241,242,243,244,245,246,248,249,250,251,252,253,254,255,192,193,194,195,196,197,198,199,200,201,202,203,204,205,206,207,208,209,210,211,212,213,214,216,217,218,219,220,221,222]
noncomputable def eY:Str:=nm [32,9,13,10]
noncomputable def eX:Str:=nm [39,34]
noncomputable def qK:Str:=nm [92]
noncomputable def Vk:Str:=nm [34]
noncomputable def Ft:Str:=nm [115,101,108,102]
noncomputable def Gj:Str:=nm [113,117,111,116,101,100]
noncomputable def Bx:Str:=nm [101,115,99,97,112,101,100,115,116,97,116,101]
noncomputable def G8:Str:=nm [110,101,120,116,99,104,97,114]
noncomputable def p8:Str:=nm [115,104,108,101,120,46,114,101,97,100,95,116,111,107,101,110,46,60,108,111,99,97,108,115,62,46]
noncomputable def cD (k:Hk)(t:Tks)(ia p1 p2:Nat)(st:Value)(tk:Str)(ln:Int):Obj:=nZ Ci k 19 [(Vf,.ref ia),(Us,.none),(Tq,.bool true),(Vo,.none),(Vc,.str (nm []) (t 4)),
 (W3,.str g8 (t 5)),(Vz,.str eY (t 6)),(W8,.bool true),(Tp,.str eX (t 8)),(Vj,.str qK (t 9)),(QZ,.str Vk (t 10)),(Rx,st),(Sq,.ref p1),(Rm,.int ln (t 13)),
 (PQ,.int 0 (t 14)),(Rr,.str tk (t 15)),(Qk,.ref p2),(RD,.none),(R9,.str (nm []) (t 18))]
noncomputable def yJ (k:Hk)(t:Tks)(sa:Nat)(q:Bool):Obj:=nZ iD k 3 [(Ft,.ref sa),(Gj,.bool q),(Bx,.str (nm [32]) (t 2))]
noncomputable def fD (k:Hk)(t:Tks)(sa:Nat)(q:Bool)(ch:Str):Obj:=nZ iD k 4 [(Ft,.ref sa),(Gj,.bool q),(Bx,.str (nm [32]) (t 2)),(G8,.str ch (t 3))]
noncomputable def fdOf (P:Params)(a:Nat):FuncData:=match (ktop P).get a with
 |some o=>match o.data with
  |.func fd=>fd
  |_=>default
 |none=>default
noncomputable def bodyOf (fd:FuncData):List Stmt:=match fd.body with
 |.stmts b=>b
 |.expr _=>[]
noncomputable def Ih:List Stmt→Nat→Stmt
 |[],_=>.Pass default
 |s::_,0=>s
 |_::l,n+1=>Ih l n
noncomputable def Ff (s:Stmt)(env:Env):Code:=match s with
 |.While test body orelse _=>.whileLoop test body orelse env
 |_=>.block [] env
noncomputable def envOf (P:Params)(a:Nat)(fr:Nat)(qual:Str)(cells:List (Str×Addr)):Env:={scope:=(fdOf P a).scope,locals:=fr,globals:=(fdOf P a).globals,cells:=cells,qual:=qual,func:=some a,code:=(fdOf P a).code,frame:=some fr,builtins:=(fdOf P a).builtins}
noncomputable def jJ (P:Params)(fa:Nat):Code:=Ff (Ih (bodyOf (fdOf P 777)) 2) (envOf P 777 fa p8 [])
noncomputable def eE (rd:Code→Led→Nat→Nat→RdO)(buf:Str)(pos pos':Int)(ch:Str):An:=fun k=>.cons 24 (fun c g Z V=>⟨.call (.ref 620) ⟨[.ref (az g 1),.int 1 (bH c 1)],[]⟩,800,[(az g 0,bV (aP (au g 0)) (aN (au g 0)) buf pos),(az g 1,aC 674 (az g 0))],
 .ok (.ret (.str ch (rd c g Z V).vt)),[bV (rd c g Z V).k (rd c g Z V).t buf pos',aC 674 (az g 0)],[],fun _ _=>False,[],(rd c g Z V).Z,(rd c g Z V).V⟩) fun _ _ _ _=>k
theorem zR P (rd:Code→Led→Nat→Nat→RdO) k0 k1 k3 t0 t1 t3 fa da sa ba ia p1 p2 (st0:Nat) buf pos pos2 tk ln q Z V:Fb (run P 600 211 (hc (hc (hc (hc (hc (hc (hc (hc (hc yE 8 1) 112 hb0) 16 0) 112 hb0) 240 hb4) 112 hb0) 24 0) 280 hb3) 48 0x30100) (jJ P fa) [(fa,yJ k0 t0 sa q),(da,cD k1 t1 ia p1 p2 .none tk ln),(sa,aC 809 da),(ba,bV k3 t3 buf pos),(ia,aC 674 ba)] Z V [] (eE rd buf pos pos2 (nm []) (bN (nm []) (nm [10]) false .nil))) 31 (.done .next) (fun R=>[(fa,fD (ak R 0) (aq R 0) sa q (nm [])),(da,cD (ak R 1) (aq R 1) ia p1 p2 .none (nm []) ln),(sa,aC 809 da),(ba,bV (ak R 3) (aq R 3) buf pos2),(ia,aC 674 ba)]):=⟨by kernel_rfl⟩
theorem uy (P:Params)(rd:Code→Led→Nat→Nat→RdO)(k0 k1 k3:Hk)(t0 t1 t3:Tks)(fa da sa ba ia p1 p2 st0:Nat)(buf:Str)(pos pos2:Int)(tk:Str)(ln:Int)(q:Bool)(Z V:Nat):Fb (run P 600 242 hq2 (jJ P fa) [(fa,yJ k0 t0 sa false),(da,cD k1 t1 ia p1 p2 (.str (nm [32]) st0) tk ln),(sa,aC 809 da),(ba,bV k3 t3 buf pos),(ia,aC 674 ba)] Z V [] (eE rd buf pos pos2 (nm []) (bN (nm []) (nm [10]) false (aU (nm []) 0 .nil)))) 31 (.done .next) (fun R=>[(fa,fD (ak R 0) (aq R 0) sa false (nm [])),(da,cD (ak R 1) (aq R 1) ia p1 p2 .none tk ln),(sa,aC 809 da),(ba,bV (ak R 3) (aq R 3) buf pos2),(ia,aC 674 ba)]):=⟨by kernel_rfl⟩
theorem By P (rd:Code→Led→Nat→Nat→RdO) k0 k1 k3 t0 t1 t3 fa da sa ba ia p1 p2 st0 buf pos pos2 tk ln (q:Bool) ch Z V:Fb (run P 600 363 Zd (jJ P fa) [(fa,yJ k0 t0 sa false),(da,cD k1 t1 ia p1 p2 (.str (nm [32]) st0) tk ln),(sa,aC 809 da),(ba,bV k3 t3 buf pos),(ia,aC 674 ba)] Z V [] (eE rd buf pos pos2 ch (bN ch (nm [10]) true (aU ch 1 (bL eY ch true (aU tk 0 .nil)))))) 31 (.again (jJ P fa)) (fun R=>[(fa,fD (ak R 0) (aq R 0) sa false ch),(da,cD (ak R 1) (aq R 1) ia p1 p2 (.str (nm [32]) (aq R 1 11)) tk (ln+1)),(sa,aC 809 da),(ba,bV (ak R 3) (aq R 3) buf pos2),(ia,aC 674 ba)]):=⟨by kernel_rfl⟩
theorem Bl P (rd:Code→Led→Nat→Nat→RdO) k0 k1 k3 t0 t1 t3 fa da sa ba ia p1 p2 st0 buf pos pos2 tk ln (q:Bool) ch Z V:Fb (run P 600 313 Zh (jJ P fa) [(fa,yJ k0 t0 sa false),(da,cD k1 t1 ia p1 p2 (.str (nm [32]) st0) tk ln),(sa,aC 809 da),(ba,bV k3 t3 buf pos),(ia,aC 674 ba)] Z V [] (eE rd buf pos pos2 ch (bN ch (nm [10]) false (aU ch 1 (bL eY ch true (aU tk 0 .nil)))))) 31 (.again (jJ P fa)) (fun R=>[(fa,fD (ak R 0) (aq R 0) sa false ch),(da,cD (ak R 1) (aq R 1) ia p1 p2 (.str (nm [32]) (aq R 1 11)) tk ln),(sa,aC 809 da),(ba,bV (ak R 3) (aq R 3) buf pos2),(ia,aC 674 ba)]):=⟨by kernel_rfl⟩
theorem CK P (rd:Code→Led→Nat→Nat→RdO) k0 k1 k3 t0 t1 t3 fa da sa ba ia p1 p2 st0 buf pos pos2 tk ln (q:Bool) ch Z V:Fb (run P 600 477 Y9 (jJ P fa) [(fa,yJ k0 t0 sa false),(da,cD k1 t1 ia p1 p2 (.str (nm [32]) st0) tk ln),(sa,aC 809 da),(ba,bV k3 t3 buf pos),(ia,aC 674 ba)] Z V [] (eE rd buf pos pos2 ch (bN ch (nm [10]) false (aU ch 1 (bL eY ch false (bL (nm []) ch false (bL qK ch false (bL g8 ch false (bL (nm []) ch false (bL eX ch true .nil)))))))))) 31 (.again (jJ P fa)) (fun R=>[(fa,fD (ak R 0) (aq R 0) sa false ch),(da,cD (ak R 1) (aq R 1) ia p1 p2 (.str ch (aq R 1 11)) tk ln),(sa,aC 809 da),(ba,bV (ak R 3) (aq R 3) buf pos2),(ia,aC 674 ba)]):=⟨by kernel_rfl⟩
theorem Dh P (rd:Code→Led→Nat→Nat→RdO) k0 k1 k3 t0 t1 t3 fa da sa ba ia p1 p2 st0 buf pos pos2 tk ln (q:Bool) ch Z V:Fb (run P 600 395 YX (jJ P fa) [(fa,yJ k0 t0 sa false),(da,cD k1 t1 ia p1 p2 (.str (nm [32]) st0) tk ln),(sa,aC 809 da),(ba,bV k3 t3 buf pos),(ia,aC 674 ba)] Z V [] (eE rd buf pos pos2 ch (bN ch (nm [10]) false (aU ch 1 (bL eY ch false (bL (nm []) ch false (bL qK ch false (bL g8 ch true .nil)))))))) 31 (.again (jJ P fa)) (fun R=>[(fa,fD (ak R 0) (aq R 0) sa false ch),(da,cD (ak R 1) (aq R 1) ia p1 p2 (.str (nm [97]) (aq R 1 11)) ch ln),(sa,aC 809 da),(ba,bV (ak R 3) (aq R 3) buf pos2),(ia,aC 674 ba)]):=⟨by kernel_rfl⟩
theorem BL P (rd:Code→Led→Nat→Nat→RdO) k0 k1 k3 t0 t1 t3 fa da sa ba ia p1 p2 st0 buf pos pos2 tk ln (q:Bool) ch Z V:Fb (run P 600 505 YT (jJ P fa) [(fa,yJ k0 t0 sa false),(da,cD k1 t1 ia p1 p2 (.str (nm [32]) st0) tk ln),(sa,aC 809 da),(ba,bV k3 t3 buf pos),(ia,aC 674 ba)] Z V [] (eE rd buf pos pos2 ch (bN ch (nm [10]) false (aU ch 1 (bL eY ch false (bL (nm []) ch false (bL qK ch false (bL g8 ch false (bL (nm []) ch false (bL eX ch false .nil)))))))))) 31 (.again (jJ P fa)) (fun R=>[(fa,fD (ak R 0) (aq R 0) sa false ch),(da,cD (ak R 1) (aq R 1) ia p1 p2 (.str (nm [97]) (aq R 1 11)) ch ln),(sa,aC 809 da),(ba,bV (ak R 3) (aq R 3) buf pos2),(ia,aC 674 ba)]):=⟨by kernel_rfl⟩
theorem uq P (rd:Code→Led→Nat→Nat→RdO) k0 k1 k3 t0 t1 t3 fa da sa ba ia p1 p2 st0 buf pos pos2 tk ln (q:Bool) oc Z V:Fb (run P 600 242 hq2 (jJ P fa) [(fa,fD k0 t0 sa false oc),(da,cD k1 t1 ia p1 p2 (.str (nm [32]) st0) tk ln),(sa,aC 809 da),(ba,bV k3 t3 buf pos),(ia,aC 674 ba)] Z V [] (eE rd buf pos pos2 (nm []) (bN (nm []) (nm [10]) false (aU (nm []) 0 .nil)))) 31 (.done .next) (fun R=>[(fa,fD (ak R 0) (aq R 0) sa false (nm [])),(da,cD (ak R 1) (aq R 1) ia p1 p2 .none tk ln),(sa,aC 809 da),(ba,bV (ak R 3) (aq R 3) buf pos2),(ia,aC 674 ba)]):=⟨by kernel_rfl⟩
theorem CX P (rd:Code→Led→Nat→Nat→RdO) k0 k1 k3 t0 t1 t3 fa da sa ba ia p1 p2 st0 buf pos pos2 tk ln (q:Bool) oc ch Z V:Fb (run P 600 363 Zd (jJ P fa) [(fa,fD k0 t0 sa false oc),(da,cD k1 t1 ia p1 p2 (.str (nm [32]) st0) tk ln),(sa,aC 809 da),(ba,bV k3 t3 buf pos),(ia,aC 674 ba)] Z V [] (eE rd buf pos pos2 ch (bN ch (nm [10]) true (aU ch 1 (bL eY ch true (aU tk 0 .nil)))))) 31 (.again (jJ P fa)) (fun R=>[(fa,fD (ak R 0) (aq R 0) sa false ch),(da,cD (ak R 1) (aq R 1) ia p1 p2 (.str (nm [32]) (aq R 1 11)) tk (ln+1)),(sa,aC 809 da),(ba,bV (ak R 3) (aq R 3) buf pos2),(ia,aC 674 ba)]):=⟨by kernel_rfl⟩
theorem CJ P (rd:Code→Led→Nat→Nat→RdO) k0 k1 k3 t0 t1 t3 fa da sa ba ia p1 p2 st0 buf pos pos2 tk ln (q:Bool) oc ch Z V:Fb (run P 600 313 Zh (jJ P fa) [(fa,fD k0 t0 sa false oc),(da,cD k1 t1 ia p1 p2 (.str (nm [32]) st0) tk ln),(sa,aC 809 da),(ba,bV k3 t3 buf pos),(ia,aC 674 ba)] Z V [] (eE rd buf pos pos2 ch (bN ch (nm [10]) false (aU ch 1 (bL eY ch true (aU tk 0 .nil)))))) 31 (.again (jJ P fa)) (fun R=>[(fa,fD (ak R 0) (aq R 0) sa false ch),(da,cD (ak R 1) (aq R 1) ia p1 p2 (.str (nm [32]) (aq R 1 11)) tk ln),(sa,aC 809 da),(ba,bV (ak R 3) (aq R 3) buf pos2),(ia,aC 674 ba)]):=⟨by kernel_rfl⟩
theorem Cm P (rd:Code→Led→Nat→Nat→RdO) k0 k1 k3 t0 t1 t3 fa da sa ba ia p1 p2 st0 buf pos pos2 tk ln (q:Bool) oc ch Z V:Fb (run P 600 477 Y9 (jJ P fa) [(fa,fD k0 t0 sa false oc),(da,cD k1 t1 ia p1 p2 (.str (nm [32]) st0) tk ln),(sa,aC 809 da),(ba,bV k3 t3 buf pos),(ia,aC 674 ba)] Z V [] (eE rd buf pos pos2 ch (bN ch (nm [10]) false (aU ch 1 (bL eY ch false (bL (nm []) ch false (bL qK ch false (bL g8 ch false (bL (nm []) ch false (bL eX ch true .nil)))))))))) 31 (.again (jJ P fa)) (fun R=>[(fa,fD (ak R 0) (aq R 0) sa false ch),(da,cD (ak R 1) (aq R 1) ia p1 p2 (.str ch (aq R 1 11)) tk ln),(sa,aC 809 da),(ba,bV (ak R 3) (aq R 3) buf pos2),(ia,aC 674 ba)]):=⟨by kernel_rfl⟩
theorem CV P (rd:Code→Led→Nat→Nat→RdO) k0 k1 k3 t0 t1 t3 fa da sa ba ia p1 p2 st0 buf pos pos2 tk ln (q:Bool) oc ch Z V:Fb (run P 600 395 YX (jJ P fa) [(fa,fD k0 t0 sa false oc),(da,cD k1 t1 ia p1 p2 (.str (nm [32]) st0) tk ln),(sa,aC 809 da),(ba,bV k3 t3 buf pos),(ia,aC 674 ba)] Z V [] (eE rd buf pos pos2 ch (bN ch (nm [10]) false (aU ch 1 (bL eY ch false (bL (nm []) ch false (bL qK ch false (bL g8 ch true .nil)))))))) 31 (.again (jJ P fa)) (fun R=>[(fa,fD (ak R 0) (aq R 0) sa false ch),(da,cD (ak R 1) (aq R 1) ia p1 p2 (.str (nm [97]) (aq R 1 11)) ch ln),(sa,aC 809 da),(ba,bV (ak R 3) (aq R 3) buf pos2),(ia,aC 674 ba)]):=⟨by kernel_rfl⟩
theorem CQ P (rd:Code→Led→Nat→Nat→RdO) k0 k1 k3 t0 t1 t3 fa da sa ba ia p1 p2 st0 buf pos pos2 tk ln (q:Bool) oc ch Z V:Fb (run P 600 505 YT (jJ P fa) [(fa,fD k0 t0 sa false oc),(da,cD k1 t1 ia p1 p2 (.str (nm [32]) st0) tk ln),(sa,aC 809 da),(ba,bV k3 t3 buf pos),(ia,aC 674 ba)] Z V [] (eE rd buf pos pos2 ch (bN ch (nm [10]) false (aU ch 1 (bL eY ch false (bL (nm []) ch false (bL qK ch false (bL g8 ch false (bL (nm []) ch false (bL eX ch false .nil)))))))))) 31 (.again (jJ P fa)) (fun R=>[(fa,fD (ak R 0) (aq R 0) sa false ch),(da,cD (ak R 1) (aq R 1) ia p1 p2 (.str (nm [97]) (aq R 1 11)) ch ln),(sa,aC 809 da),(ba,bV (ak R 3) (aq R 3) buf pos2),(ia,aC 674 ba)]):=⟨by kernel_rfl⟩
theorem Gf P (rd:Code→Led→Nat→Nat→RdO) k0 k1 k3 t0 t1 t3 fa da sa ba ia p1 p2 st0 buf pos pos2 tk ln q oc ch qs Z V:Fb (run P 600 341 (hc (hc (hc (hc (hc (hc (hc (hc (hc (hc (hc (hc (hc (hc (hc (hc (hc yE 8 1) 112 hb0) 16 256) 112 hb0) 56 0x1010101010100) 112 hb0) 112 hb0) 16 256) 112 hb0) 112 hb0) 16 0) 112 hb0) 240 hb4) 112 hb0) 24 0) 280 hb3) 48 0x30100) (jJ P fa) [(fa,fD k0 t0 sa q oc),(da,cD k1 t1 ia p1 p2 (.str qs st0) tk ln),(sa,aC 809 da),(ba,bV k3 t3 buf pos),(ia,aC 674 ba)] Z V [] (eE rd buf pos pos2 ch (bN ch (nm [10]) false (bN qs (nm [32]) false (bL eX qs true (aU ch 1 (bN ch qs true .nil))))))) 31 (.again (jJ P fa)) (fun R=>[(fa,fD (ak R 0) (aq R 0) sa true ch),(da,cD (ak R 1) (aq R 1) ia p1 p2 (.str (nm [97]) (aq R 1 11)) tk ln),(sa,aC 809 da),(ba,bV (ak R 3) (aq R 3) buf pos2),(ia,aC 674 ba)]):=⟨by kernel_rfl⟩
theorem Fj P (rd:Code→Led→Nat→Nat→RdO) k0 k1 k3 t0 t1 t3 fa da sa ba ia p1 p2 st0 buf pos pos2 tk ln q oc ch qs tk2 Z V:Fb (run P 600 439 YL (jJ P fa) [(fa,fD k0 t0 sa q oc),(da,cD k1 t1 ia p1 p2 (.str qs st0) tk ln),(sa,aC 809 da),(ba,bV k3 t3 buf pos),(ia,aC 674 ba)] Z V [] (eE rd buf pos pos2 ch (bN ch (nm [10]) true (bN qs (nm [32]) false (bL eX qs true (aU ch 1 (bN ch qs false (bL qK ch false (zg tk ch tk2 .nil))))))))) 31 (.again (jJ P fa)) (fun R=>[(fa,fD (ak R 0) (aq R 0) sa true ch),(da,cD (ak R 1) (aq R 1) ia p1 p2 (.str qs (aq R 1 11)) tk2 (ln+1)),(sa,aC 809 da),(ba,bV (ak R 3) (aq R 3) buf pos2),(ia,aC 674 ba)]):=⟨by kernel_rfl⟩
theorem BZ P (rd:Code→Led→Nat→Nat→RdO) k0 k1 k3 t0 t1 t3 fa da sa ba ia p1 p2 st0 buf pos pos2 (tk:Str) ln q oc ch qs Z V:Fb (run P 600 439 YL (jJ P fa) [(fa,fD k0 t0 sa q oc),(da,cD k1 t1 ia p1 p2 (.str qs st0) Str.empty ln),(sa,aC 809 da),(ba,bV k3 t3 buf pos),(ia,aC 674 ba)] Z V [] (eE rd buf pos pos2 ch (bN ch (nm [10]) true (bN qs (nm [32]) false (bL eX qs true (aU ch 1 (bN ch qs false (bL qK ch false (wN ch .nil))))))))) 31 (.again (jJ P fa)) (fun R=>[(fa,fD (ak R 0) (aq R 0) sa true ch),(da,cD (ak R 1) (aq R 1) ia p1 p2 (.str qs (aq R 1 11)) ch (ln+1)),(sa,aC 809 da),(ba,bV (ak R 3) (aq R 3) buf pos2),(ia,aC 674 ba)]):=⟨by kernel_rfl⟩
theorem Fx P (rd:Code→Led→Nat→Nat→RdO) k0 k1 k3 t0 t1 t3 fa da sa ba ia p1 p2 st0 buf pos pos2 tk ln q oc ch qs tk2 Z V:Fb (run P 600 389 Za (jJ P fa) [(fa,fD k0 t0 sa q oc),(da,cD k1 t1 ia p1 p2 (.str qs st0) tk ln),(sa,aC 809 da),(ba,bV k3 t3 buf pos),(ia,aC 674 ba)] Z V [] (eE rd buf pos pos2 ch (bN ch (nm [10]) false (bN qs (nm [32]) false (bL eX qs true (aU ch 1 (bN ch qs false (bL qK ch false (zg tk ch tk2 .nil))))))))) 31 (.again (jJ P fa)) (fun R=>[(fa,fD (ak R 0) (aq R 0) sa true ch),(da,cD (ak R 1) (aq R 1) ia p1 p2 (.str qs (aq R 1 11)) tk2 ln),(sa,aC 809 da),(ba,bV (ak R 3) (aq R 3) buf pos2),(ia,aC 674 ba)]):=⟨by kernel_rfl⟩
theorem CP P (rd:Code→Led→Nat→Nat→RdO) k0 k1 k3 t0 t1 t3 fa da sa ba ia p1 p2 st0 buf pos pos2 (tk:Str) ln q oc ch qs Z V:Fb (run P 600 389 Za (jJ P fa) [(fa,fD k0 t0 sa q oc),(da,cD k1 t1 ia p1 p2 (.str qs st0) Str.empty ln),(sa,aC 809 da),(ba,bV k3 t3 buf pos),(ia,aC 674 ba)] Z V [] (eE rd buf pos pos2 ch (bN ch (nm [10]) false (bN qs (nm [32]) false (bL eX qs true (aU ch 1 (bN ch qs false (bL qK ch false (wN ch .nil))))))))) 31 (.again (jJ P fa)) (fun R=>[(fa,fD (ak R 0) (aq R 0) sa true ch),(da,cD (ak R 1) (aq R 1) ia p1 p2 (.str qs (aq R 1 11)) ch ln),(sa,aC 809 da),(ba,bV (ak R 3) (aq R 3) buf pos2),(ia,aC 674 ba)]):=⟨by kernel_rfl⟩
theorem wJ P (rd:Code→Led→Nat→Nat→RdO) k0 k1 k3 t0 t1 t3 fa da sa ba ia p1 p2 st0 buf pos pos2 tk ln q oc Z V:Fb (run P 600 359 (hc (hc (hc (hc (hc (hc (hc (hc (hc (hc (hc (hc (hc (hc (hc (hc (hc (hc yE 64 0x101010107000707) 112 hb0) 16 0) 112 hb0) 112 hb0) 16 0) 112 hb0) 112 hb0) 16 0) 112 hb0) 112 hb0) 16 0) 112 hb0) 240 hb4) 112 hb0) 24 0) 280 hb3) 48 0x30100) (jJ P fa) [(fa,fD k0 t0 sa q oc),(da,cD k1 t1 ia p1 p2 (.str (nm [97]) st0) tk ln),(sa,aC 809 da),(ba,bV k3 t3 buf pos),(ia,aC 674 ba)] Z V [] (eE rd buf pos pos2 (nm []) (bN (nm []) (nm [10]) false (qN 64 (nm [97]) (nm [97]) (nm [99]) true (aU (nm []) 0 .nil))))) 31 (.done .next) (fun R=>[(fa,fD (ak R 0) (aq R 0) sa q (nm [])),(da,cD (ak R 1) (aq R 1) ia p1 p2 .none tk ln),(sa,aC 809 da),(ba,bV (ak R 3) (aq R 3) buf pos2),(ia,aC 674 ba)]):=⟨by kernel_rfl⟩
theorem v7 P (rd:Code→Led→Nat→Nat→RdO) k0 k1 k3 t0 t1 t3 fa da sa ba ia p1 p2 st0 buf pos pos2 tk ln q oc ch tl Z V:Fb (run P 600 485 (hc (hc (hc (hc (hc (hc (hc (hc (hc (hc (hc (hc (hc (hc (hc (hc (hc (hc (hc (hc (hc (hc (hc (hc (hc (hc (hc 1 112 hb0) 152 yE) 24 0x10000) 112 hb0) 16 256) 112 hb0) 64 0x101010107000707) 112 hb0) 16 0) 112 hb0) 112 hb0) 16 0) 112 hb0) 112 hb0) 16 0) 112 hb0) 112 hb0) 16 0) 112 hb0) 152 yE) 16 0) 112 hb0) 240 hb4) 112 hb0) 24 0) 280 hb3) 48 0x30100) (jJ P fa) [(fa,fD k0 t0 sa q oc),(da,cD k1 t1 ia p1 p2 (.str (nm [97]) st0) tk ln),(sa,aC 809 da),(ba,bV k3 t3 buf pos),(ia,aC 674 ba)] Z V [] (eE rd buf pos pos2 ch (bN ch (nm [10]) true (qN 64 (nm [97]) (nm [97]) (nm [99]) true (aU ch 1 (bL eY ch true (aU tk (Int.ofNat (Nat.succ tl)) .nil))))))) 31 (.done .next) (fun R=>[(fa,fD (ak R 0) (aq R 0) sa q ch),(da,cD (ak R 1) (aq R 1) ia p1 p2 (.str (nm [32]) (aq R 1 11)) tk (ln+1)),(sa,aC 809 da),(ba,bV (ak R 3) (aq R 3) buf pos2),(ia,aC 674 ba)]):=⟨by kernel_rfl⟩
theorem uF P (rd:Code→Led→Nat→Nat→RdO) k0 k1 k3 t0 t1 t3 fa da sa ba ia p1 p2 st0 buf pos pos2 tk ln (q:Bool) oc ch Z V:Fb (run P 600 508 (hc (hc (hc (hc (hc (hc (hc (hc (hc (hc (hc (hc (hc (hc (hc (hc (hc (hc (hc (hc (hc (hc (hc (hc (hc (hc (hc (hc (hc 1 112 hb0) 8 1) 112 hb0) 152 yE) 24 0x10000) 112 hb0) 16 256) 112 hb0) 64 0x101010107000707) 112 hb0) 16 0) 112 hb0) 112 hb0) 16 0) 112 hb0) 112 hb0) 16 0) 112 hb0) 112 hb0) 16 0) 112 hb0) 152 yE) 16 0) 112 hb0) 240 hb4) 112 hb0) 24 0) 280 hb3) 48 0x30100) (jJ P fa) [(fa,fD k0 t0 sa true oc),(da,cD k1 t1 ia p1 p2 (.str (nm [97]) st0) tk ln),(sa,aC 809 da),(ba,bV k3 t3 buf pos),(ia,aC 674 ba)] Z V [] (eE rd buf pos pos2 ch (bN ch (nm [10]) true (qN 64 (nm [97]) (nm [97]) (nm [99]) true (aU ch 1 (bL eY ch true (aU tk 0 .nil))))))) 31 (.done .next) (fun R=>[(fa,fD (ak R 0) (aq R 0) sa true ch),(da,cD (ak R 1) (aq R 1) ia p1 p2 (.str (nm [32]) (aq R 1 11)) tk (ln+1)),(sa,aC 809 da),(ba,bV (ak R 3) (aq R 3) buf pos2),(ia,aC 674 ba)]):=⟨by kernel_rfl⟩
theorem wi P (rd:Code→Led→Nat→Nat→RdO) k0 k1 k3 t0 t1 t3 fa da sa ba ia p1 p2 st0 buf pos pos2 tk ln q oc ch tl Z V:Fb (run P 600 435 (hc (hc (hc (hc (hc (hc (hc (hc (hc (hc (hc (hc (hc (hc (hc (hc (hc (hc (hc (hc (hc (hc (hc (hc 1 112 hb0) 152 yE) 24 0x10000) 112 hb0) 16 256) 112 hb0) 64 0x101010107000707) 112 hb0) 16 0) 112 hb0) 112 hb0) 16 0) 112 hb0) 112 hb0) 16 0) 112 hb0) 112 hb0) 16 0) 112 hb0) 240 hb4) 112 hb0) 24 0) 280 hb3) 48 0x30100) (jJ P fa) [(fa,fD k0 t0 sa q oc),(da,cD k1 t1 ia p1 p2 (.str (nm [97]) st0) tk ln),(sa,aC 809 da),(ba,bV k3 t3 buf pos),(ia,aC 674 ba)] Z V [] (eE rd buf pos pos2 ch (bN ch (nm [10]) false (qN 64 (nm [97]) (nm [97]) (nm [99]) true (aU ch 1 (bL eY ch true (aU tk (Int.ofNat (Nat.succ tl)) .nil))))))) 31 (.done .next) (fun R=>[(fa,fD (ak R 0) (aq R 0) sa q ch),(da,cD (ak R 1) (aq R 1) ia p1 p2 (.str (nm [32]) (aq R 1 11)) tk ln),(sa,aC 809 da),(ba,bV (ak R 3) (aq R 3) buf pos2),(ia,aC 674 ba)]):=⟨by kernel_rfl⟩
theorem uE P (rd:Code→Led→Nat→Nat→RdO) k0 k1 k3 t0 t1 t3 fa da sa ba ia p1 p2 st0 buf pos pos2 tk ln (q:Bool) oc ch Z V:Fb (run P 600 458 (hc (hc (hc (hc (hc (hc (hc (hc (hc (hc (hc (hc (hc (hc (hc (hc (hc (hc (hc (hc (hc (hc (hc (hc (hc (hc 1 112 hb0) 8 1) 112 hb0) 152 yE) 24 0x10000) 112 hb0) 16 256) 112 hb0) 64 0x101010107000707) 112 hb0) 16 0) 112 hb0) 112 hb0) 16 0) 112 hb0) 112 hb0) 16 0) 112 hb0) 112 hb0) 16 0) 112 hb0) 240 hb4) 112 hb0) 24 0) 280 hb3) 48 0x30100) (jJ P fa) [(fa,fD k0 t0 sa true oc),(da,cD k1 t1 ia p1 p2 (.str (nm [97]) st0) tk ln),(sa,aC 809 da),(ba,bV k3 t3 buf pos),(ia,aC 674 ba)] Z V [] (eE rd buf pos pos2 ch (bN ch (nm [10]) false (qN 64 (nm [97]) (nm [97]) (nm [99]) true (aU ch 1 (bL eY ch true (aU tk 0 .nil))))))) 31 (.done .next) (fun R=>[(fa,fD (ak R 0) (aq R 0) sa true ch),(da,cD (ak R 1) (aq R 1) ia p1 p2 (.str (nm [32]) (aq R 1 11)) tk ln),(sa,aC 809 da),(ba,bV (ak R 3) (aq R 3) buf pos2),(ia,aC 674 ba)]):=⟨by kernel_rfl⟩
theorem Ga P (rd:Code→Led→Nat→Nat→RdO) k0 k1 k3 t0 t1 t3 fa da sa ba ia p1 p2 st0 buf pos pos2 tk ln q oc ch Z V:Fb (run P 600 484 (hc (hc (hc (hc (hc (hc (hc (hc (hc (hc (hc (hc (hc (hc (hc (hc (hc (hc (hc (hc (hc (hc (hc (hc (hc (hc (hc (hc yE 32 0x1010100) 112 hb0) 8 1) 112 hb0) 16 0) 112 hb0) 16 256) 112 hb0) 24 0x10100) 112 hb0) 64 0x101010107000707) 112 hb0) 16 0) 112 hb0) 112 hb0) 16 0) 112 hb0) 112 hb0) 16 0) 112 hb0) 112 hb0) 16 0) 112 hb0) 240 hb4) 112 hb0) 24 0) 280 hb3) 48 0x30100) (jJ P fa) [(fa,fD k0 t0 sa q oc),(da,cD k1 t1 ia p1 p2 (.str (nm [97]) st0) tk ln),(sa,aC 809 da),(ba,bV k3 t3 buf pos),(ia,aC 674 ba)] Z V [] (eE rd buf pos pos2 ch (bN ch (nm [10]) false (qN 64 (nm [97]) (nm [97]) (nm [99]) true (aU ch 1 (bL eY ch false (bL (nm []) ch false (bL eX ch true .nil)))))))) 31 (.again (jJ P fa)) (fun R=>[(fa,fD (ak R 0) (aq R 0) sa q ch),(da,cD (ak R 1) (aq R 1) ia p1 p2 (.str ch (aq R 1 11)) tk ln),(sa,aC 809 da),(ba,bV (ak R 3) (aq R 3) buf pos2),(ia,aC 674 ba)]):=⟨by kernel_rfl⟩
theorem Bp P (rd:Code→Led→Nat→Nat→RdO) k0 k1 k3 t0 t1 t3 fa da sa ba ia p1 p2 st0 buf pos pos2 tk ln q oc ch tk2 Z V:Fb (run P 600 578 Wz (jJ P fa) [(fa,fD k0 t0 sa q oc),(da,cD k1 t1 ia p1 p2 (.str (nm [97]) st0) tk ln),(sa,aC 809 da),(ba,bV k3 t3 buf pos),(ia,aC 674 ba)] Z V [] (eE rd buf pos pos2 ch (bN ch (nm [10]) false (qN 64 (nm [97]) (nm [97]) (nm [99]) true (aU ch 1 (bL eY ch false (bL (nm []) ch false (bL eX ch false (bL qK ch false (bL g8 ch true (zg tk ch tk2 .nil))))))))))) 31 (.again (jJ P fa)) (fun R=>[(fa,fD (ak R 0) (aq R 0) sa q ch),(da,cD (ak R 1) (aq R 1) ia p1 p2 (.str (nm [97]) (aq R 1 11)) tk2 ln),(sa,aC 809 da),(ba,bV (ak R 3) (aq R 3) buf pos2),(ia,aC 674 ba)]):=⟨by kernel_rfl⟩
theorem yZ P (rd:Code→Led→Nat→Nat→RdO) k0 k1 k3 t0 t1 t3 fa da sa ba ia p1 p2 st0 buf pos pos2 (tk:Str) ln q oc ch Z V:Fb (run P 600 578 Wz (jJ P fa) [(fa,fD k0 t0 sa q oc),(da,cD k1 t1 ia p1 p2 (.str (nm [97]) st0) Str.empty ln),(sa,aC 809 da),(ba,bV k3 t3 buf pos),(ia,aC 674 ba)] Z V [] (eE rd buf pos pos2 ch (bN ch (nm [10]) false (qN 64 (nm [97]) (nm [97]) (nm [99]) true (aU ch 1 (bL eY ch false (bL (nm []) ch false (bL eX ch false (bL qK ch false (bL g8 ch true (wN ch .nil))))))))))) 31 (.again (jJ P fa)) (fun R=>[(fa,fD (ak R 0) (aq R 0) sa q ch),(da,cD (ak R 1) (aq R 1) ia p1 p2 (.str (nm [97]) (aq R 1 11)) ch ln),(sa,aC 809 da),(ba,bV (ak R 3) (aq R 3) buf pos2),(ia,aC 674 ba)]):=⟨by kernel_rfl⟩
theorem Bw P (rd:Code→Led→Nat→Nat→RdO) k0 k1 k3 t0 t1 t3 fa da sa ba ia p1 p2 st0 buf pos pos2 tk ln q oc ch tk2 Z V:Fb (run P 600 685 T5 (jJ P fa) [(fa,fD k0 t0 sa q oc),(da,cD k1 t1 ia p1 p2 (.str (nm [97]) st0) tk ln),(sa,aC 809 da),(ba,bV k3 t3 buf pos),(ia,aC 674 ba)] Z V [] (eE rd buf pos pos2 ch (bN ch (nm [10]) false (qN 64 (nm [97]) (nm [97]) (nm [99]) true (aU ch 1 (bL eY ch false (bL (nm []) ch false (bL eX ch false (bL qK ch false (bL g8 ch false (bL eX ch false (bL (nm []) ch false (zg tk ch tk2 .nil))))))))))))) 31 (.again (jJ P fa)) (fun R=>[(fa,fD (ak R 0) (aq R 0) sa q ch),(da,cD (ak R 1) (aq R 1) ia p1 p2 (.str (nm [97]) (aq R 1 11)) tk2 ln),(sa,aC 809 da),(ba,bV (ak R 3) (aq R 3) buf pos2),(ia,aC 674 ba)]):=⟨by kernel_rfl⟩
theorem zp P (rd:Code→Led→Nat→Nat→RdO) k0 k1 k3 t0 t1 t3 fa da sa ba ia p1 p2 st0 buf pos pos2 (tk:Str) ln q oc ch Z V:Fb (run P 600 685 T5 (jJ P fa) [(fa,fD k0 t0 sa q oc),(da,cD k1 t1 ia p1 p2 (.str (nm [97]) st0) Str.empty ln),(sa,aC 809 da),(ba,bV k3 t3 buf pos),(ia,aC 674 ba)] Z V [] (eE rd buf pos pos2 ch (bN ch (nm [10]) false (qN 64 (nm [97]) (nm [97]) (nm [99]) true (aU ch 1 (bL eY ch false (bL (nm []) ch false (bL eX ch false (bL qK ch false (bL g8 ch false (bL eX ch false (bL (nm []) ch false (wN ch .nil))))))))))))) 31 (.again (jJ P fa)) (fun R=>[(fa,fD (ak R 0) (aq R 0) sa q ch),(da,cD (ak R 1) (aq R 1) ia p1 p2 (.str (nm [97]) (aq R 1 11)) ch ln),(sa,aC 809 da),(ba,bV (ak R 3) (aq R 3) buf pos2),(ia,aC 674 ba)]):=⟨by kernel_rfl⟩
section
open Builtin Builtin.Str Builtin.Int
noncomputable def KF (P:Params):bw:=fun a o=>(ktop P).get a=some o
inductive LS where
 |sp|wd|qt (q:Nat)|fin
noncomputable def oK (c:Nat):Bool:=decide (c∈[32,9,13,10])
noncomputable def gG (c:Nat):Bool:=decide (c∈[39,34])
noncomputable def bx:LS→List Nat→List Nat→Bool→Option (List Nat×Bool×LS×List Nat)
 |.sp,[],tk,q=>some (tk,q,.fin,[])
 |.wd,[],tk,q=>some (tk,q,.fin,[])
 |.fin,r,_,q=>some ([],q,.fin,r)
 |.qt _,[],_,_=>none
 |.sp,c::r,tk,q=>if oK c then bx .sp r tk q else if gG c then bx (.qt c) r tk q else bx .wd r [c] q
 |.wd,c::r,tk,q=>if oK c then some (tk,q,.sp,r) else if gG c then bx (.qt c) r tk q else bx .wd r (tk++[c]) q
 |.qt x,c::r,tk,_=>if c==x then bx .wd r tk true else bx (.qt x) r (tk++[c]) true
structure Adr where
 fa:Nat
 da:Nat
 sa:Nat
 ba:Nat
 ia:Nat
 p1:Nat
 p2:Nat
structure LxS where
 k0:Hk
 k1:Hk
 k3:Hk
 t0:Tks
 t1:Tks
 t3:Tks
 st0:Nat
 oc:Str
 ln:Int
 Z:Nat
 V:Nat
noncomputable def ig:LS→Nat→Value
 |.sp,t=>.str (nm [32]) t
 |.wd,t=>.str (nm [97]) t
 |.qt q,t=>.str (nm [q]) t
 |.fin,_=>.none
noncomputable def zq (X:Adr)(s:LxS)(first:Bool)(st:LS)(tk:List Nat)(q:Bool)(l:List Nat)(i:Nat):Led:=
 [(X.fa,match first with|true=>yJ s.k0 s.t0 X.sa q|false=>fD s.k0 s.t0 X.sa q s.oc),(X.da,cD s.k1 s.t1 X.ia X.p1 X.p2 (ig st s.st0) (nm tk) s.ln),(X.sa,aC 809 X.da),(X.ba,bV s.k3 s.t3 (nm l) i),(X.ia,aC 674 X.ba)]
section
variable {w:World} {J:Array GenState} {dr:Drawn} {os:Osw} {F:bw}
theorem bu.mono {F':bw}{a:Ans}{Z V:Nat}(h:bu aH w J dr os F a Z V)(hF:∀b o,F b o→F' b o):bu aH w J dr os F' a Z V:=
 ⟨h.1,h.2.1,fun Fz hz=>h.2.2 Fz fun b o x=>hz b o (hF b o x)⟩
noncomputable def Iw (rd:Code→Led→Nat→Nat→RdO)(buf:Str)(pos pos':Int)(ch:Str)(c:Code)(g:Led)(Z V:Nat):Ans:=⟨.call (.ref 620) ⟨[.ref (az g 1),.int 1 (bH c 1)],[]⟩,800,[(az g 0,bV (aP (au g 0)) (aN (au g 0)) buf pos),(az g 1,aC 674 (az g 0))],
 .ok (.ret (.str ch (rd c g Z V).vt)),[bV (rd c g Z V).k (rd c g Z V).t buf pos',aC 674 (az g 0)],[],fun _ _=>False,[],(rd c g Z V).Z,(rd c g Z V).V⟩
theorem Gi (l:List Nat)(hl:l.length≤100000)(i:Nat)(hi:i≤l.length):
  ∃rd:Code→Led→Nat→Nat→RdO,∀c g Z V,bu aH w J dr os (KF w.params) (Iw rd (nm l) i (su l i:Nat) (ou l i) c g Z V) Z V:=by
 have:=fun(c:Code) (g:Led) (Z V:Nat)=>KH (w:=w) (J:=J) (dr:=dr) (os:=os) (F:=KF w.params) (fun _ _ h=>h) l hl i hi (aP (au g 0)) (aN (au g 0)) (az g 0) (az g 1) (bH c 1) Z V
 exact⟨fun c g Z V=>(this c g Z V).choose,fun c g Z V=>(this c g Z V).choose_spec⟩
theorem bK {rd:Code→Led→Nat→Nat→RdO}{buf ch:Str}{pos pos':Int}{k:Ant}(hF:∀b o,KF w.params b o→F b o)(h:∀c g Z V,bu aH w J dr os (KF w.params) (Iw rd buf pos pos' ch c g Z V) Z V)(hk:aA aH w J dr os F k):aA aH w J dr os F (eE rd buf pos pos' ch k):=
 aV (fun _ _ _ _=>rfl) (fun c g Z V=>(h c g Z V).mono hF) hk
theorem iy {l:List Nat}{i c:Nat}{r:List Nat}(h:l.drop i=c::r):ou l i=nm [c]∧su l i=i+1∧i+1≤l.length∧l.drop (i+1)=r:=by
 have hlt:i<l.length:=by
  apply Nat.lt_of_not_le
  intro q
  rw[List.drop_eq_nil_of_le q] at h
  cases h
 rw[List.drop_eq_getElem_cons hlt] at h
 injection h with h1 h2
 refine⟨?_,if_pos hlt,hlt,h2⟩
 unfold ou
 rw[List.getElem?_eq_getElem hlt,h1]
theorem zz {l:List Nat}{i:Nat}(h:l.drop i=[]):ou l i=nm []∧su l i=i:=by
 have hle:l.length≤i:=by
  apply Nat.le_of_not_lt
  intro q
  rw[List.drop_eq_getElem_cons q] at h
  cases h
 refine⟨?_,if_neg (by omega)⟩
 unfold ou
 rw[List.getElem?_eq_none hle]
theorem U5 (x:Str)(c:Nat):(!(occurrences x (nm [c]) 0 x.length 1).isEmpty)=decide (c∈x.cps.toList):=StrLaws.found_one x c
theorem U0 (c:Nat):(nm [c]).length≤sizeLine:=by show 1≤sizeLine;decide
theorem oF:(nm []).length≤sizeLine:=by show 0≤sizeLine;decide
theorem bR {c:Nat}{k:Ant}(hk:aA aH w J dr os F k):aA aH w J dr os F (aU (nm [c]) 1 k):=bY rfl (U0 c) hk
theorem aD {x:Str}{c:Nat}{b:Bool}{k:Ant}(h:decide (c∈x.cps.toList)=b)(hk:aA aH w J dr os F k):aA aH w J dr os F (bL x (nm [c]) b k):=RG ((U5 x c).trans h) hk
theorem dJ {c:Nat}{b:Bool}{k:Ant}(h:(c==10)=b)(hk:aA aH w J dr os F k):aA aH w J dr os F (bN (nm [c]) (nm [10]) b k):=gm (by rw[←h];show([c]==[10])=_;simp) hk
theorem z9 {k:Ant}(hk:aA aH w J dr os F k):aA aH w J dr os F (bN (nm []) (nm [10]) false k):=gm rfl hk
theorem gk {c d:Nat}{b:Bool}{k:Ant}(h:(c==d)=b)(hk:aA aH w J dr os F k):aA aH w J dr os F (bN (nm [c]) (nm [d]) b k):=gm (by rw[←h];show([c]==[d])=_;simp) hk
theorem vV {tk:List Nat}{c:Nat}{k:Ant}(h:tk≠[])(hl:tk.length≤100000)(hk:aA aH w J dr os F k):aA aH w J dr os F (zg (nm tk) (nm [c]) (nm (tk++[c])) k):=by
 refine Qc ?_ rfl ?_ ?_ hk
 ·cases tk with
  |nil=>exact absurd rfl h
  |cons=>rfl
 ·show(⟨⟨tk⟩++⟨[c]⟩⟩:Str)=_
  simp[nm]
 ·show(tk++[c]).length≤sizeLine
  rw[List.length_append]
  have:sizeLine=16777216:=rfl
  have:[c].length=1:=rfl
  omega
noncomputable def Inv (first:Bool)(st:LS)(tk:List Nat)(q:Bool):Prop:=match st with
 |.sp=>tk=[]∧q=false
 |.wd=>first=false∧(tk≠[]∨q=true)
 |.qt x=>first=false∧gG x=true
 |.fin=>first=true∧tk=[]
theorem Wk {lim n h:Nat}{c c':Code}{led vW:Led}{Z V m:Nat}{ant:Ant}{R:Res}{S:Type}{r:Result}{L':S→Led}{z t:S→Nat}(hR:run w.params lim n h c led Z V [] ant=R)(H:vw R m=(true,true,.again c',vW,rights (cH R)))(hq:c'.quiet=true)(hant:∀Fz:bw,(∀b o,KF w.params b o→Fz b o)→aA aH w J dr os Fz ant)(K:∃s',∀Fz:bw,(∀b o,KF w.params b o→Fz b o)→jO aH w J dr os lim c' Fz vW (dw R) (bk R) r Fz (L' s') (z s') (t s')):
  ∃s',∀Fz:bw,(∀b o,KF w.params b o→Fz b o)→jO aH w J dr os lim c Fz led Z V r Fz (L' s') (z s') (t s'):=by
 obtain⟨s',K⟩:=K
 refine⟨s',fun Fz hF=>HW hR H hq hF (fun _ h=>(nomatch h)) (hant Fz hF) ((K _ fun b o h=>.inl (.inl (hF b o h))).post fun s r=>r.anti fun b o h=>.inl (.inl h))⟩
theorem cL {lim n h:Nat}{c c':Code}{led:Led}{Z V m:Nat}{ant:Ant}{L:Res→Led}{S:Type}{r:Result}{L':S→Led}{z t:S→Nat}(f:Fb (run w.params lim n h c led Z V [] ant) m (.again c') L)(hq:c'.quiet=true)(hant:∀Fz:bw,(∀b o,KF w.params b o→Fz b o)→aA aH w J dr os Fz ant)(K:∀R:Res,∃s',∀Fz:bw,(∀b o,KF w.params b o→Fz b o)→jO aH w J dr os lim c' Fz (L R) (dw R) (bk R) r Fz (L' s') (z s') (t s')):
  ∃s',∀Fz:bw,(∀b o,KF w.params b o→Fz b o)→jO aH w J dr os lim c Fz led Z V r Fz (L' s') (z s') (t s'):=by
 refine aL f.ex fun R hR H=>?_
 exact Wk hR H hq hant (K R)
theorem q7 {lim n h:Nat}{c:Code}{led vW:Led}{Z V m:Nat}{ant:Ant}{R:Res}{f:Flow}(hR:run w.params lim n h c led Z V [] ant=R)(H:vw R m=(true,true,.done f,vW,rights (cH R)))(hant:∀Fz:bw,(∀b o,KF w.params b o→Fz b o)→aA aH w J dr os Fz ant):
  ∀Fz:bw,(∀b o,KF w.params b o→Fz b o)→jO aH w J dr os lim c Fz led Z V (.ok f) Fz vW (dw R) (bk R):=
 fun Fz hF=>(yq hR H hF (fun _ h=>(nomatch h)) (hant Fz hF)).post fun s r=>r.anti fun b o h=>.inl (.inl h)
noncomputable abbrev WR (w:World)(J:Array GenState)(dr:Drawn)(os:Osw)(X:Adr)(l:List Nat)(first:Bool)(st:LS)(tk:List Nat)(q:Bool)(i:Nat)(s:LxS)(o:List Nat×Bool×LS×List Nat):Prop:=
 ∃s':LxS,∀Fz:bw,(∀b o,KF w.params b o→Fz b o)→jO aH w J dr os 600 (jJ w.params X.fa) Fz (zq X s first st tk q l i) s.Z s.V (.ok .next) Fz (zq X s' false o.2.2.1 o.1 o.2.1 l (l.length-o.2.2.2.length)) s'.Z s'.V
theorem bI (P:Params)(fa:Nat):(jJ P fa).quiet=true:=by
 unfold jJ Ff
 split<;>rfl
theorem Et (X:Adr)(l:List Nat)(hl:l.length≤50000):∀(rest:List Nat) (i:Nat) (first:Bool) (st:LS) (tk:List Nat) (q:Bool) (s:LxS) (o:List Nat×Bool×LS×List Nat),
  l.drop i=rest→i≤l.length→tk.length≤i→(∀c∈rest,c≠92)→(st=.fin→rest=[])→Inv first st tk q→bx st rest tk q=some o→WR w J dr os X l first st tk q i s o
 |[],i,first,st,tk,q,s,o,hdrop,hi,htk,hesc,hfin,hinv,ho=>by
  obtain⟨rd,hrd⟩:=Gi (w:=w) (J:=J) (dr:=dr) (os:=os) l (by omega) i hi
  obtain⟨e1,e2⟩:=zz hdrop
  rw[e1,e2] at hrd
  have hpos:l.length-([]:List Nat).length=i:=by
   have:l.length≤i:=by
    apply Nat.le_of_not_lt
    intro q
    rw[List.drop_eq_getElem_cons q] at hdrop
    cases hdrop
   show l.length-0=i
   omega
  cases st with
  |qt x=>cases ho
  |fin=>
   obtain⟨rfl,rfl⟩:=hinv
   cases ho
   refine aL ((zR w.params rd s.k0 s.k1 s.k3 s.t0 s.t1 s.t3 X.fa X.da X.sa X.ba X.ia X.p1 X.p2 s.st0 (nm l) i i (nm []) s.ln q s.Z s.V).ex) fun R hR H=>?_
   refine⟨⟨ak R 0,ak R 1,ak R 3,aq R 0,aq R 1,aq R 3,0,nm [],s.ln,dw R,bk R⟩,?_⟩
   rw[hpos]
   exact q7 hR H fun Fz hF=>bK hF hrd (z9 trivial)
  |sp=>
   obtain⟨rfl,rfl⟩:=hinv
   cases ho
   cases first with
   |true=>
    refine aL ((uy w.params rd s.k0 s.k1 s.k3 s.t0 s.t1 s.t3 X.fa X.da X.sa X.ba X.ia X.p1 X.p2 s.st0 (nm l) i i (nm []) s.ln false s.Z s.V).ex) fun R hR H=>?_
    refine⟨⟨ak R 0,ak R 1,ak R 3,aq R 0,aq R 1,aq R 3,0,nm [],s.ln,dw R,bk R⟩,?_⟩
    rw[hpos]
    exact q7 hR H fun Fz hF=>bK hF hrd (z9 (bY rfl oF trivial))
   |false=>
    refine aL ((uq w.params rd s.k0 s.k1 s.k3 s.t0 s.t1 s.t3 X.fa X.da X.sa X.ba X.ia X.p1 X.p2 s.st0 (nm l) i i (nm []) s.ln false s.oc s.Z s.V).ex) fun R hR H=>?_
    refine⟨⟨ak R 0,ak R 1,ak R 3,aq R 0,aq R 1,aq R 3,0,nm [],s.ln,dw R,bk R⟩,?_⟩
    rw[hpos]
    exact q7 hR H fun Fz hF=>bK hF hrd (z9 (bY rfl oF trivial))
  |wd=>
   obtain⟨rfl,hw⟩:=hinv
   cases ho
   refine aL ((wJ w.params rd s.k0 s.k1 s.k3 s.t0 s.t1 s.t3 X.fa X.da X.sa X.ba X.ia X.p1 X.p2 s.st0 (nm l) i i (nm tk) s.ln q s.oc s.Z s.V).ex) fun R hR H=>?_
   refine⟨⟨ak R 0,ak R 1,ak R 3,aq R 0,aq R 1,aq R 3,0,nm [],s.ln,dw R,bk R⟩,?_⟩
   rw[hpos]
   exact q7 hR H fun Fz hF=>bK hF hrd (z9 (jw rfl (bY rfl oF trivial)))
 |c::rest,i,first,st,tk,q,s,o,hdrop,hi,htk,hesc,hfin,hinv,ho=>by
  obtain⟨rd,hrd⟩:=Gi (w:=w) (J:=J) (dr:=dr) (os:=os) l (by omega) i hi
  refine cg (iy hdrop) fun e1 e2 hi' hdrop'=>?_
  rw[e1,e2] at hrd
  have hesc':∀c∈rest,c≠92:=fun d hd=>hesc d (.tail _ hd)
  have h92:decide (c∈qK.cps.toList)=false:=decide_eq_false (by
   have:=hesc c (.head _)
   show c∉[92]
   simpa using this)
  have hE:decide (c∈(nm []).cps.toList)=false:=rfl
  have IH:=fun first st tk q s o ht hf hv h=>Et X l hl rest (i+1) first st tk q s o hdrop' hi' ht hesc' hf hv h
  have hS:∀{b},oK c=b→decide (c∈eY.cps.toList)=b:=fun h=>h
  have hQ:∀{b},gG c=b→decide (c∈eX.cps.toList)=b:=fun h=>h
  have nx:∀{R:Res} {ln:Int} {oc:Str},True:=trivial
  cases st with
  |fin=>cases hfin rfl
  |sp=>
   obtain⟨rfl,rfl⟩:=hinv
   unfold bx at ho
   cases hsp:oK c with
   |true=>
    rw[hsp,if_pos rfl] at ho
    cases hn:(c==10) with
    |true=>
     cases first with
     |true=>
      exact cL (By w.params rd s.k0 s.k1 s.k3 s.t0 s.t1 s.t3 X.fa X.da X.sa X.ba X.ia X.p1 X.p2 s.st0 (nm l) i (i+1:Nat) (nm []) s.ln false (nm [c]) s.Z s.V) (bI _ _) (fun Fz hF=>bK hF hrd (dJ hn (bR (aD (hS hsp) (bY rfl oF trivial))))) fun R=>
       (IH false .sp [] false ⟨ak R 0,ak R 1,ak R 3,aq R 0,aq R 1,aq R 3,aq R 1 11,nm [c],s.ln+1,dw R,bk R⟩ o (Nat.zero_le _) (fun e=>nomatch e) ⟨rfl,rfl⟩ ho)
     |false=>
      exact cL (CX w.params rd s.k0 s.k1 s.k3 s.t0 s.t1 s.t3 X.fa X.da X.sa X.ba X.ia X.p1 X.p2 s.st0 (nm l) i (i+1:Nat) (nm []) s.ln false s.oc (nm [c]) s.Z s.V) (bI _ _) (fun Fz hF=>bK hF hrd (dJ hn (bR (aD (hS hsp) (bY rfl oF trivial))))) fun R=>
       (IH false .sp [] false ⟨ak R 0,ak R 1,ak R 3,aq R 0,aq R 1,aq R 3,aq R 1 11,nm [c],s.ln+1,dw R,bk R⟩ o (Nat.zero_le _) (fun e=>nomatch e) ⟨rfl,rfl⟩ ho)
    |false=>
     cases first with
     |true=>
      exact cL (Bl w.params rd s.k0 s.k1 s.k3 s.t0 s.t1 s.t3 X.fa X.da X.sa X.ba X.ia X.p1 X.p2 s.st0 (nm l) i (i+1:Nat) (nm []) s.ln false (nm [c]) s.Z s.V) (bI _ _) (fun Fz hF=>bK hF hrd (dJ hn (bR (aD (hS hsp) (bY rfl oF trivial))))) fun R=>
       (IH false .sp [] false ⟨ak R 0,ak R 1,ak R 3,aq R 0,aq R 1,aq R 3,aq R 1 11,nm [c],s.ln,dw R,bk R⟩ o (Nat.zero_le _) (fun e=>nomatch e) ⟨rfl,rfl⟩ ho)
     |false=>
      exact cL (CJ w.params rd s.k0 s.k1 s.k3 s.t0 s.t1 s.t3 X.fa X.da X.sa X.ba X.ia X.p1 X.p2 s.st0 (nm l) i (i+1:Nat) (nm []) s.ln false s.oc (nm [c]) s.Z s.V) (bI _ _) (fun Fz hF=>bK hF hrd (dJ hn (bR (aD (hS hsp) (bY rfl oF trivial))))) fun R=>
       (IH false .sp [] false ⟨ak R 0,ak R 1,ak R 3,aq R 0,aq R 1,aq R 3,aq R 1 11,nm [c],s.ln,dw R,bk R⟩ o (Nat.zero_le _) (fun e=>nomatch e) ⟨rfl,rfl⟩ ho)
   |false=>
    have hn:(c==10)=false:=by
     cases q:(c==10) with
     |false=>rfl
     |true=>rw[eq_of_beq q] at hsp;cases hsp
    rw[hsp,if_neg (by simp)] at ho
    cases hqt:gG c with
    |true=>
     rw[hqt,if_pos rfl] at ho
     have hw:decide (c∈g8.cps.toList)=false:=by
      have:c∈[39,34]:=of_decide_eq_true hqt
      simp only[List.mem_cons,List.not_mem_nil,or_false] at this
      rcases this with rfl|rfl<;>decide
     cases first with
     |true=>
      exact cL (CK w.params rd s.k0 s.k1 s.k3 s.t0 s.t1 s.t3 X.fa X.da X.sa X.ba X.ia X.p1 X.p2 s.st0 (nm l) i (i+1:Nat) (nm []) s.ln false (nm [c]) s.Z s.V) (bI _ _) (fun Fz hF=>bK hF hrd (dJ hn (bR (aD (hS hsp) (aD hE (aD h92 (aD hw (aD hE (aD (hQ hqt) trivial))))))))) fun R=>
       (IH false (.qt c) [] false ⟨ak R 0,ak R 1,ak R 3,aq R 0,aq R 1,aq R 3,aq R 1 11,nm [c],s.ln,dw R,bk R⟩ o (Nat.zero_le _) (fun e=>nomatch e) ⟨rfl,hqt⟩ ho)
     |false=>
      exact cL (Cm w.params rd s.k0 s.k1 s.k3 s.t0 s.t1 s.t3 X.fa X.da X.sa X.ba X.ia X.p1 X.p2 s.st0 (nm l) i (i+1:Nat) (nm []) s.ln false s.oc (nm [c]) s.Z s.V) (bI _ _) (fun Fz hF=>bK hF hrd (dJ hn (bR (aD (hS hsp) (aD hE (aD h92 (aD hw (aD hE (aD (hQ hqt) trivial))))))))) fun R=>
       (IH false (.qt c) [] false ⟨ak R 0,ak R 1,ak R 3,aq R 0,aq R 1,aq R 3,aq R 1 11,nm [c],s.ln,dw R,bk R⟩ o (Nat.zero_le _) (fun e=>nomatch e) ⟨rfl,hqt⟩ ho)
    |false=>
     rw[hqt,if_neg (by simp)] at ho
     cases hw:decide (c∈g8.cps.toList) with
     |true=>
      cases first with
      |true=>
       exact cL (Dh w.params rd s.k0 s.k1 s.k3 s.t0 s.t1 s.t3 X.fa X.da X.sa X.ba X.ia X.p1 X.p2 s.st0 (nm l) i (i+1:Nat) (nm []) s.ln false (nm [c]) s.Z s.V) (bI _ _) (fun Fz hF=>bK hF hrd (dJ hn (bR (aD (hS hsp) (aD hE (aD h92 (aD hw trivial))))))) fun R=>
        (IH false .wd [c] false ⟨ak R 0,ak R 1,ak R 3,aq R 0,aq R 1,aq R 3,aq R 1 11,nm [c],s.ln,dw R,bk R⟩ o (by show 1≤i+1;omega) (fun e=>nomatch e) ⟨rfl,.inl (by simp)⟩ ho)
      |false=>
       exact cL (CV w.params rd s.k0 s.k1 s.k3 s.t0 s.t1 s.t3 X.fa X.da X.sa X.ba X.ia X.p1 X.p2 s.st0 (nm l) i (i+1:Nat) (nm []) s.ln false s.oc (nm [c]) s.Z s.V) (bI _ _) (fun Fz hF=>bK hF hrd (dJ hn (bR (aD (hS hsp) (aD hE (aD h92 (aD hw trivial))))))) fun R=>
        (IH false .wd [c] false ⟨ak R 0,ak R 1,ak R 3,aq R 0,aq R 1,aq R 3,aq R 1 11,nm [c],s.ln,dw R,bk R⟩ o (by show 1≤i+1;omega) (fun e=>nomatch e) ⟨rfl,.inl (by simp)⟩ ho)
     |false=>
      cases first with
      |true=>
       exact cL (BL w.params rd s.k0 s.k1 s.k3 s.t0 s.t1 s.t3 X.fa X.da X.sa X.ba X.ia X.p1 X.p2 s.st0 (nm l) i (i+1:Nat) (nm []) s.ln false (nm [c]) s.Z s.V) (bI _ _) (fun Fz hF=>bK hF hrd (dJ hn (bR (aD (hS hsp) (aD hE (aD h92 (aD hw (aD hE (aD (hQ hqt) trivial))))))))) fun R=>
        (IH false .wd [c] false ⟨ak R 0,ak R 1,ak R 3,aq R 0,aq R 1,aq R 3,aq R 1 11,nm [c],s.ln,dw R,bk R⟩ o (by show 1≤i+1;omega) (fun e=>nomatch e) ⟨rfl,.inl (by simp)⟩ ho)
      |false=>
       exact cL (CQ w.params rd s.k0 s.k1 s.k3 s.t0 s.t1 s.t3 X.fa X.da X.sa X.ba X.ia X.p1 X.p2 s.st0 (nm l) i (i+1:Nat) (nm []) s.ln false s.oc (nm [c]) s.Z s.V) (bI _ _) (fun Fz hF=>bK hF hrd (dJ hn (bR (aD (hS hsp) (aD hE (aD h92 (aD hw (aD hE (aD (hQ hqt) trivial))))))))) fun R=>
        (IH false .wd [c] false ⟨ak R 0,ak R 1,ak R 3,aq R 0,aq R 1,aq R 3,aq R 1 11,nm [c],s.ln,dw R,bk R⟩ o (by show 1≤i+1;omega) (fun e=>nomatch e) ⟨rfl,.inl (by simp)⟩ ho)
  |qt x=>
   obtain⟨rfl,hx⟩:=hinv
   unfold bx at ho
   have hx32:(x==32)=false:=by
    have:x∈[39,34]:=of_decide_eq_true hx
    simp only[List.mem_cons,List.not_mem_nil,or_false] at this
    rcases this with rfl|rfl<;>rfl
   have hxq:decide (x∈eX.cps.toList)=true:=hx
   cases hc:(c==x) with
   |true=>
    rw[hc,if_pos rfl] at ho
    have hn:(c==10)=false:=by
     have:x∈[39,34]:=of_decide_eq_true hx
     simp only[List.mem_cons,List.not_mem_nil,or_false] at this
     rw[eq_of_beq hc]
     rcases this with rfl|rfl<;>rfl
    exact cL (Gf w.params rd s.k0 s.k1 s.k3 s.t0 s.t1 s.t3 X.fa X.da X.sa X.ba X.ia X.p1 X.p2 s.st0 (nm l) i (i+1:Nat) (nm tk) s.ln q s.oc (nm [c]) (nm [x]) s.Z s.V) (bI _ _) (fun Fz hF=>bK hF hrd (dJ hn (gk hx32 (aD hxq (bR (gk hc trivial)))))) fun R=>
     (IH false .wd tk true ⟨ak R 0,ak R 1,ak R 3,aq R 0,aq R 1,aq R 3,aq R 1 11,nm [c],s.ln,dw R,bk R⟩ o (by omega) (fun e=>nomatch e) ⟨rfl,.inr rfl⟩ ho)
   |false=>
    rw[hc,if_neg (by simp)] at ho
    have htk':(tk++[c]).length≤i+1:=by rw[List.length_append];show tk.length+1≤_;omega
    by_cases hte:tk=[]
    ·subst hte
     cases hn:(c==10) with
     |true=>
      exact cL (BZ w.params rd s.k0 s.k1 s.k3 s.t0 s.t1 s.t3 X.fa X.da X.sa X.ba X.ia X.p1 X.p2 s.st0 (nm l) i (i+1:Nat) (nm []) s.ln q s.oc (nm [c]) (nm [x]) s.Z s.V) (bI _ _) (fun Fz hF=>bK hF hrd (dJ hn (gk hx32 (aD hxq (bR (gk hc (aD h92 (nj trivial)))))))) fun R=>
       (IH false (.qt x) [c] true ⟨ak R 0,ak R 1,ak R 3,aq R 0,aq R 1,aq R 3,aq R 1 11,nm [c],s.ln+1,dw R,bk R⟩ o htk' (fun e=>nomatch e) ⟨rfl,hx⟩ ho)
     |false=>
      exact cL (CP w.params rd s.k0 s.k1 s.k3 s.t0 s.t1 s.t3 X.fa X.da X.sa X.ba X.ia X.p1 X.p2 s.st0 (nm l) i (i+1:Nat) (nm []) s.ln q s.oc (nm [c]) (nm [x]) s.Z s.V) (bI _ _) (fun Fz hF=>bK hF hrd (dJ hn (gk hx32 (aD hxq (bR (gk hc (aD h92 (nj trivial)))))))) fun R=>
       (IH false (.qt x) [c] true ⟨ak R 0,ak R 1,ak R 3,aq R 0,aq R 1,aq R 3,aq R 1 11,nm [c],s.ln,dw R,bk R⟩ o htk' (fun e=>nomatch e) ⟨rfl,hx⟩ ho)
    ·cases hn:(c==10) with
     |true=>
      exact cL (Fj w.params rd s.k0 s.k1 s.k3 s.t0 s.t1 s.t3 X.fa X.da X.sa X.ba X.ia X.p1 X.p2 s.st0 (nm l) i (i+1:Nat) (nm tk) s.ln q s.oc (nm [c]) (nm [x]) (nm (tk++[c])) s.Z s.V) (bI _ _) (fun Fz hF=>bK hF hrd (dJ hn (gk hx32 (aD hxq (bR (gk hc (aD h92 (vV hte (by omega) trivial)))))))) fun R=>
       (IH false (.qt x) (tk++[c]) true ⟨ak R 0,ak R 1,ak R 3,aq R 0,aq R 1,aq R 3,aq R 1 11,nm [c],s.ln+1,dw R,bk R⟩ o htk' (fun e=>nomatch e) ⟨rfl,hx⟩ ho)
     |false=>
      exact cL (Fx w.params rd s.k0 s.k1 s.k3 s.t0 s.t1 s.t3 X.fa X.da X.sa X.ba X.ia X.p1 X.p2 s.st0 (nm l) i (i+1:Nat) (nm tk) s.ln q s.oc (nm [c]) (nm [x]) (nm (tk++[c])) s.Z s.V) (bI _ _) (fun Fz hF=>bK hF hrd (dJ hn (gk hx32 (aD hxq (bR (gk hc (aD h92 (vV hte (by omega) trivial)))))))) fun R=>
       (IH false (.qt x) (tk++[c]) true ⟨ak R 0,ak R 1,ak R 3,aq R 0,aq R 1,aq R 3,aq R 1 11,nm [c],s.ln,dw R,bk R⟩ o htk' (fun e=>nomatch e) ⟨rfl,hx⟩ ho)
  |wd=>
   obtain⟨rfl,hw⟩:=hinv
   unfold bx at ho
   have htk':(tk++[c]).length≤i+1:=by rw[List.length_append];show tk.length+1≤_;omega
   cases hsp:oK c with
   |true=>
    rw[hsp,if_pos rfl] at ho
    cases ho
    have hpos:l.length-rest.length=i+1:=by
     have e:=congrArg List.length hdrop'
     rw[List.length_drop] at e
     omega
    have sz1:(nm tk).length≤sizeLine:=by
     show tk.length≤sizeLine
     have:sizeLine=16777216:=rfl
     omega
    by_cases hte:tk=[]
    ·subst hte
     have hq':q=true:=hw.elim (fun h=>absurd rfl h) id
     subst hq'
     cases hn:(c==10) with
     |true=>
      refine aL ((uF w.params rd s.k0 s.k1 s.k3 s.t0 s.t1 s.t3 X.fa X.da X.sa X.ba X.ia X.p1 X.p2 s.st0 (nm l) i (i+1:Nat) (nm []) s.ln true s.oc (nm [c]) s.Z s.V).ex) fun R hR H=>?_
      refine⟨⟨ak R 0,ak R 1,ak R 3,aq R 0,aq R 1,aq R 3,aq R 1 11,nm [c],s.ln+1,dw R,bk R⟩,?_⟩
      dsimp only
      rw[hpos]
      exact q7 hR H fun Fz hF=>bK hF hrd (dJ hn (jw rfl (bR (aD (hS hsp) (bY rfl oF trivial)))))
     |false=>
      refine aL ((uE w.params rd s.k0 s.k1 s.k3 s.t0 s.t1 s.t3 X.fa X.da X.sa X.ba X.ia X.p1 X.p2 s.st0 (nm l) i (i+1:Nat) (nm []) s.ln true s.oc (nm [c]) s.Z s.V).ex) fun R hR H=>?_
      refine⟨⟨ak R 0,ak R 1,ak R 3,aq R 0,aq R 1,aq R 3,aq R 1 11,nm [c],s.ln,dw R,bk R⟩,?_⟩
      dsimp only
      rw[hpos]
      exact q7 hR H fun Fz hF=>bK hF hrd (dJ hn (jw rfl (bR (aD (hS hsp) (bY rfl oF trivial)))))
    ·obtain⟨tl,htl⟩:∃tl,tk.length=tl+1:=⟨tk.length-1,by have:=List.length_pos_iff.mpr hte;omega⟩
     have hlen:((nm tk).length:Int)=Int.ofNat (Nat.succ tl):=by show((tk.length:Nat):Int)=_;rw[htl];rfl
     cases hn:(c==10) with
     |true=>
      refine aL ((v7 w.params rd s.k0 s.k1 s.k3 s.t0 s.t1 s.t3 X.fa X.da X.sa X.ba X.ia X.p1 X.p2 s.st0 (nm l) i (i+1:Nat) (nm tk) s.ln q s.oc (nm [c]) tl s.Z s.V).ex) fun R hR H=>?_
      refine⟨⟨ak R 0,ak R 1,ak R 3,aq R 0,aq R 1,aq R 3,aq R 1 11,nm [c],s.ln+1,dw R,bk R⟩,?_⟩
      dsimp only
      rw[hpos]
      exact q7 hR H fun Fz hF=>bK hF hrd (dJ hn (jw rfl (bR (aD (hS hsp) (bY hlen sz1 trivial)))))
     |false=>
      refine aL ((wi w.params rd s.k0 s.k1 s.k3 s.t0 s.t1 s.t3 X.fa X.da X.sa X.ba X.ia X.p1 X.p2 s.st0 (nm l) i (i+1:Nat) (nm tk) s.ln q s.oc (nm [c]) tl s.Z s.V).ex) fun R hR H=>?_
      refine⟨⟨ak R 0,ak R 1,ak R 3,aq R 0,aq R 1,aq R 3,aq R 1 11,nm [c],s.ln,dw R,bk R⟩,?_⟩
      dsimp only
      rw[hpos]
      exact q7 hR H fun Fz hF=>bK hF hrd (dJ hn (jw rfl (bR (aD (hS hsp) (bY hlen sz1 trivial)))))
   |false=>
    have hn:(c==10)=false:=by
     cases q:(c==10) with
     |false=>rfl
     |true=>rw[eq_of_beq q] at hsp;cases hsp
    rw[hsp,if_neg (by simp)] at ho
    cases hqt:gG c with
    |true=>
     rw[hqt,if_pos rfl] at ho
     exact cL (Ga w.params rd s.k0 s.k1 s.k3 s.t0 s.t1 s.t3 X.fa X.da X.sa X.ba X.ia X.p1 X.p2 s.st0 (nm l) i (i+1:Nat) (nm tk) s.ln q s.oc (nm [c]) s.Z s.V) (bI _ _) (fun Fz hF=>bK hF hrd (dJ hn (jw rfl (bR (aD (hS hsp) (aD hE (aD (hQ hqt) trivial))))))) fun R=>
      (IH false (.qt c) tk q ⟨ak R 0,ak R 1,ak R 3,aq R 0,aq R 1,aq R 3,aq R 1 11,nm [c],s.ln,dw R,bk R⟩ o (by omega) (fun e=>nomatch e) ⟨rfl,hqt⟩ ho)
    |false=>
     rw[hqt,if_neg (by simp)] at ho
     by_cases hte:tk=[]
     ·subst hte
      have hq':q=true:=hw.elim (fun h=>absurd rfl h) id
      subst hq'
      cases hwd:decide (c∈g8.cps.toList) with
      |true=>
       exact cL (yZ w.params rd s.k0 s.k1 s.k3 s.t0 s.t1 s.t3 X.fa X.da X.sa X.ba X.ia X.p1 X.p2 s.st0 (nm l) i (i+1:Nat) (nm []) s.ln true s.oc (nm [c]) s.Z s.V) (bI _ _) (fun Fz hF=>bK hF hrd (dJ hn (jw rfl (bR (aD (hS hsp) (aD hE (aD (hQ hqt) (aD h92 (aD hwd (nj trivial)))))))))) fun R=>
        (IH false .wd [c] true ⟨ak R 0,ak R 1,ak R 3,aq R 0,aq R 1,aq R 3,aq R 1 11,nm [c],s.ln,dw R,bk R⟩ o htk' (fun e=>nomatch e) ⟨rfl,.inr rfl⟩ ho)
      |false=>
       exact cL (zp w.params rd s.k0 s.k1 s.k3 s.t0 s.t1 s.t3 X.fa X.da X.sa X.ba X.ia X.p1 X.p2 s.st0 (nm l) i (i+1:Nat) (nm []) s.ln true s.oc (nm [c]) s.Z s.V) (bI _ _) (fun Fz hF=>bK hF hrd (dJ hn (jw rfl (bR (aD (hS hsp) (aD hE (aD (hQ hqt) (aD h92 (aD hwd (aD (hQ hqt) (aD hE (nj trivial)))))))))))) fun R=>
        (IH false .wd [c] true ⟨ak R 0,ak R 1,ak R 3,aq R 0,aq R 1,aq R 3,aq R 1 11,nm [c],s.ln,dw R,bk R⟩ o htk' (fun e=>nomatch e) ⟨rfl,.inr rfl⟩ ho)
     ·have hne:tk++[c]≠[]:=by simp
      cases hwd:decide (c∈g8.cps.toList) with
      |true=>
       exact cL (Bp w.params rd s.k0 s.k1 s.k3 s.t0 s.t1 s.t3 X.fa X.da X.sa X.ba X.ia X.p1 X.p2 s.st0 (nm l) i (i+1:Nat) (nm tk) s.ln q s.oc (nm [c]) (nm (tk++[c])) s.Z s.V) (bI _ _) (fun Fz hF=>bK hF hrd (dJ hn (jw rfl (bR (aD (hS hsp) (aD hE (aD (hQ hqt) (aD h92 (aD hwd (vV hte (by omega) trivial)))))))))) fun R=>
        (IH false .wd (tk++[c]) q ⟨ak R 0,ak R 1,ak R 3,aq R 0,aq R 1,aq R 3,aq R 1 11,nm [c],s.ln,dw R,bk R⟩ o htk' (fun e=>nomatch e) ⟨rfl,.inl hne⟩ ho)
      |false=>
       exact cL (Bw w.params rd s.k0 s.k1 s.k3 s.t0 s.t1 s.t3 X.fa X.da X.sa X.ba X.ia X.p1 X.p2 s.st0 (nm l) i (i+1:Nat) (nm tk) s.ln q s.oc (nm [c]) (nm (tk++[c])) s.Z s.V) (bI _ _) (fun Fz hF=>bK hF hrd (dJ hn (jw rfl (bR (aD (hS hsp) (aD hE (aD (hQ hqt) (aD h92 (aD hwd (aD (hQ hqt) (aD hE (vV hte (by omega) trivial)))))))))))) fun R=>
        (IH false .wd (tk++[c]) q ⟨ak R 0,ak R 1,ak R 3,aq R 0,aq R 1,aq R 3,aq R 1 11,nm [c],s.ln,dw R,bk R⟩ o htk' (fun e=>nomatch e) ⟨rfl,.inl hne⟩ ho)
end
end
noncomputable def Ke:Value→Int
 |.int i _=>i
 |_=>0
noncomputable def lC (R:Res)(i j:Nat):Int:=Ke (gV (fM (rObj R i)) j).val
noncomputable def JG (P:Params)(lx:Code→Led→Nat→Nat→LxS)(ia p1 p2:Nat)(sv:Value)(st2:LS)(ln:Int)(buf:Str)(pos pos2:Int)(tk:Str)(q:Bool)(c:Code)(g:Led)(Z V:Nat):Ans:=
 ⟨jJ P (az g 4),600,[(az g 0,cD (aP (au g 0)) (aN (au g 0)) ia p1 p2 sv (nm []) ln),(az g 1,aC 809 (az g 0)),(az g 2,bV (aP (au g 2)) (aN (au g 2)) buf pos),(ia,aC 674 (az g 2)),(az g 4,yJ (aP (au g 4)) (aN (au g 4)) (az g 1) false)],
  .ok .next,[cD (lx c g Z V).k1 (lx c g Z V).t1 ia p1 p2 (ig st2 (lx c g Z V).st0) tk (lx c g Z V).ln,aC 809 (az g 0),bV (lx c g Z V).k3 (lx c g Z V).t3 buf pos2,aC 674 (az g 2),fD (lx c g Z V).k0 (lx c g Z V).t0 (az g 1) q (lx c g Z V).oc],
  [],fun _ _=>False,[],(lx c g Z V).Z,(lx c g Z V).V⟩
noncomputable def uW (P:Params)(lx:Code→Led→Nat→Nat→LxS)(ia p1 p2:Nat)(sv:Value)(st2:LS)(ln:Int)(buf:Str)(pos pos2:Int)(tk:Str)(q:Bool):An:=fun k=>.cons 31 (JG P lx ia p1 p2 sv st2 ln buf pos pos2 tk q) fun _ _ _ _=>k
noncomputable def CT:Value→Nat
 |.str _ t=>t
 |_=>0
noncomputable def vG (R:Res)(i:Nat):Nat:=CT (gV (fM (rObj R i)) 11).val
theorem ww P (lx:Code→Led→Nat→Nat→LxS) k1 k3 t1 t3 da sa ba ia p1 p2 sv ln buf pos pos2 tk Z V:∃R,run P 560 138 Tn (.call (.ref 777) ⟨[.ref sa],[]⟩) [(da,cD k1 t1 ia p1 p2 sv (nm []) ln),(sa,aC 809 da),(ba,bV k3 t3 buf pos),(ia,aC 674 ba)] Z V [] (uW P lx ia p1 p2 sv .sp ln buf pos pos2 tk true (.nil))=R∧vw R 15=(true,true,.done (.ret (.str tk (iW R))),[(da,cD (ak R 0) (aq R 0) ia p1 p2 (ig .sp (vG R 0)) (nm []) (lC R 0 13)),(sa,aC 809 da),(ba,bV (ak R 2) (aq R 2) buf pos2),(ia,aC 674 ba)],rights (cH R)):=⟨_,rfl,by kernel_rfl⟩
theorem wF P (lx:Code→Led→Nat→Nat→LxS) k1 k3 t1 t3 da sa ba ia p1 p2 sv ln buf pos pos2 tk Z V:∃R,run P 560 138 Tn (.call (.ref 777) ⟨[.ref sa],[]⟩) [(da,cD k1 t1 ia p1 p2 sv (nm []) ln),(sa,aC 809 da),(ba,bV k3 t3 buf pos),(ia,aC 674 ba)] Z V [] (uW P lx ia p1 p2 sv .fin ln buf pos pos2 tk true (.nil))=R∧vw R 15=(true,true,.done (.ret (.str tk (iW R))),[(da,cD (ak R 0) (aq R 0) ia p1 p2 (ig .fin (vG R 0)) (nm []) (lC R 0 13)),(sa,aC 809 da),(ba,bV (ak R 2) (aq R 2) buf pos2),(ia,aC 674 ba)],rights (cH R)):=⟨_,rfl,by kernel_rfl⟩
theorem v8 P (lx:Code→Led→Nat→Nat→LxS) k1 k3 t1 t3 da sa ba ia p1 p2 sv ln buf pos pos2 tk Z V:∃R,run P 560 146 W7 (.call (.ref 777) ⟨[.ref sa],[]⟩) [(da,cD k1 t1 ia p1 p2 sv (nm []) ln),(sa,aC 809 da),(ba,bV k3 t3 buf pos),(ia,aC 674 ba)] Z V [] (uW P lx ia p1 p2 sv .sp ln buf pos pos2 tk false (bN tk (nm []) false .nil))=R∧vw R 15=(true,true,.done (.ret (.str tk (iW R))),[(da,cD (ak R 0) (aq R 0) ia p1 p2 (ig .sp (vG R 0)) (nm []) (lC R 0 13)),(sa,aC 809 da),(ba,bV (ak R 2) (aq R 2) buf pos2),(ia,aC 674 ba)],rights (cH R)):=⟨_,rfl,by kernel_rfl⟩
theorem wu P (lx:Code→Led→Nat→Nat→LxS) k1 k3 t1 t3 da sa ba ia p1 p2 sv ln buf pos pos2 tk Z V:∃R,run P 560 146 W7 (.call (.ref 777) ⟨[.ref sa],[]⟩) [(da,cD k1 t1 ia p1 p2 sv (nm []) ln),(sa,aC 809 da),(ba,bV k3 t3 buf pos),(ia,aC 674 ba)] Z V [] (uW P lx ia p1 p2 sv .fin ln buf pos pos2 tk false (bN tk (nm []) false .nil))=R∧vw R 15=(true,true,.done (.ret (.str tk (iW R))),[(da,cD (ak R 0) (aq R 0) ia p1 p2 (ig .fin (vG R 0)) (nm []) (lC R 0 13)),(sa,aC 809 da),(ba,bV (ak R 2) (aq R 2) buf pos2),(ia,aC 674 ba)],rights (cH R)):=⟨_,rfl,by kernel_rfl⟩
theorem wy P (lx:Code→Led→Nat→Nat→LxS) k1 k3 t1 t3 da sa ba ia p1 p2 sv ln buf pos pos2 (tk:Str) Z V:Fb (run P 560 154 (hc (hc (hc (hc 0x50000 96 yM) 48 0x20505050100) 496 Qm) 16 0) (.call (.ref 777) ⟨[.ref sa],[]⟩) [(da,cD k1 t1 ia p1 p2 sv (nm []) ln),(sa,aC 809 da),(ba,bV k3 t3 buf pos),(ia,aC 674 ba)] Z V [] (uW P lx ia p1 p2 sv .fin ln buf pos pos2 (nm []) false (bN (nm []) (nm []) true .nil))) 15 (.done (.ret .none)) (fun R=>[(da,cD (ak R 0) (aq R 0) ia p1 p2 (ig .fin (vG R 0)) (nm []) (lC R 0 13)),(sa,aC 809 da),(ba,bV (ak R 2) (aq R 2) buf pos2),(ia,aC 674 ba)]):=⟨by kernel_rfl⟩
section
section
variable {w:World} {J:Array GenState} {dr:Drawn} {os:Osw} {F F':bw} {led led' vW led1':Led} {Z V Z' V':Nat}
theorem Rel.perm {s:Shared}(r:Rel F J dr os led Z V s)(h:led.Perm led'):Rel F J dr os led' Z V s:=
 ⟨r.size,r.keep,fun p hp=>r.own p (h.mem_iff.mpr hp),fun p hp=>r.apart p (h.mem_iff.mpr hp),(h.map _).nodup_iff.mp r.nd,r.rest,fun p hp=>let ⟨h1,h2,h3⟩:=r.wf p hp;⟨h1,h2,fun q=>h3 ((h.map _).mem_iff.mpr q)⟩⟩
theorem jO.perm {lim:Nat}{c:Code}{r:Result}(K:jO aH w J dr os lim c F led Z V r F' led' Z' V')(h:vW.Perm led)(h':led'.Perm led1'):jO aH w J dr os lim c F vW Z V r F' led1' Z' V':=
 fun A hA hU hh s rl=>(fun Γ p hc hΓ=>wpCode_mono (fun _ _ x=>⟨x.1,x.2.perm h'⟩) (K A hA hU hh s (rl.perm h) Γ p hc hΓ))
theorem Ez {α:Type}(a b c d e:α):[b,c,d,e,a].Perm [a,b,c,d,e]:=(List.perm_append_comm (l₁:=[b,c,d,e]) (l₂:=[a]))
theorem jB:∀(r:List Nat) (st:LS) (tk:List Nat) (q:Bool) (o:List Nat×Bool×LS×List Nat),bx st r tk q=some o→o.2.2.1=.sp∨o.2.2.1=.fin
 |[],st,tk,q,o,h=>by
  cases st with
  |qt x=>cases h
  |sp=>cases h;exact .inr rfl
  |wd=>cases h;exact .inr rfl
  |fin=>cases h;exact .inr rfl
 |c::r,st,tk,q,o,h=>by
  cases st with
  |fin=>cases h;exact .inr rfl
  |sp=>
   unfold bx at h
   split at h
   ·exact jB r _ _ _ _ h
   ·split at h<;>exact jB r _ _ _ _ h
  |wd=>
   unfold bx at h
   split at h
   ·cases h;exact .inl rfl
   ·split at h<;>exact jB r _ _ _ _ h
  |qt x=>
   unfold bx at h
   split at h<;>exact jB r _ _ _ _ h
theorem jF:∀(r:List Nat) (st:LS) (tk:List Nat) (q:Bool) (o:List Nat×Bool×LS×List Nat),(st=.wd→tk≠[]∨q=true)→bx st r tk q=some o→o.2.2.1=.sp→o.1≠[]∨o.2.1=true
 |[],st,tk,q,o,hv,h,hs=>by
  cases st with
  |qt x=>cases h
  |sp=>cases h;cases hs
  |wd=>cases h;cases hs
  |fin=>cases h;cases hs
 |c::r,st,tk,q,o,hv,h,hs=>by
  cases st with
  |fin=>cases h;cases hs
  |sp=>
   unfold bx at h
   split at h
   ·exact jF r _ _ _ _ (by intro e;cases e) h hs
   ·split at h
    ·exact jF r _ _ _ _ (by intro e;cases e) h hs
    ·exact jF r _ _ _ _ (fun _=>.inl (by simp)) h hs
  |wd=>
   unfold bx at h
   split at h
   ·cases h;exact hv rfl
   ·split at h
    ·exact jF r _ _ _ _ (by intro e;cases e) h hs
    ·exact jF r _ _ _ _ (fun _=>.inl (by simp)) h hs
  |qt x=>
   unfold bx at h
   split at h
   ·exact jF r _ _ _ _ (fun _=>.inr rfl) h hs
   ·exact jF r _ _ _ _ (by intro e;cases e) h hs
noncomputable def Mu (tk:List Nat)(q:Bool)(vt:Nat):Value:=if q || !tk.isEmpty then .str (nm tk) vt else .none
structure RtO where
 k1:Hk
 k3:Hk
 t1:Tks
 t3:Tks
 st0:Nat
 ln:Int
 vt:Nat
 Z:Nat
 V:Nat
noncomputable def Q8 (da sa ba ia p1 p2:Nat)(k1 k3:Hk)(t1 t3:Tks)(st:LS)(st0:Nat)(ln:Int)(l:List Nat)(i:Nat):Led:=
 [(da,cD k1 t1 ia p1 p2 (ig st st0) (nm []) ln),(sa,aC 809 da),(ba,bV k3 t3 (nm l) i),(ia,aC 674 ba)]
noncomputable def rN (da ba ia p1 p2:Nat)(o:RtO)(st:LS)(l:List Nat)(i:Nat):List Obj:=
 [cD o.k1 o.t1 ia p1 p2 (ig st o.st0) (nm []) o.ln,aC 809 da,bV o.k3 o.t3 (nm l) i,aC 674 ba]
noncomputable def Zm (da sa ba ia p1 p2:Nat)(k1 k3:Hk)(t1 t3:Tks)(st:LS)(st0:Nat)(ln:Int)(l:List Nat)(i:Nat)(o:RtO)(x:List Nat×Bool×LS×List Nat):Ans:=
 ⟨.call (.ref 777) ⟨[.ref sa],[]⟩,560,Q8 da sa ba ia p1 p2 k1 k3 t1 t3 st st0 ln l i,.ok (.ret (Mu x.1 x.2.1 o.vt)),rN da ba ia p1 p2 o x.2.2.1 l (l.length-x.2.2.2.length),[],fun _ _=>False,[],o.Z,o.V⟩
noncomputable def zT (st:LS)(rest:List Nat):Prop:=st=.sp∨(st=.fin∧rest=[])
theorem V2 (l:List Nat)(hl:l.length≤50000)(i:Nat)(hi:i≤l.length)(hesc:∀c∈l.drop i,c≠92)(st:LS)(hst:zT st (l.drop i))(x:List Nat×Bool×LS×List Nat)(hx:bx st (l.drop i) [] false=some x)(ia p1 p2 st0:Nat)(ln:Int):
  ∃lx:Code→Led→Nat→Nat→LxS,∀c g Z V,bu aH w J dr os (KF w.params) (JG w.params lx ia p1 p2 (ig st st0) x.2.2.1 ln (nm l) i (l.length-x.2.2.2.length:Nat) (nm x.1) x.2.1 c g Z V) Z V:=by
 have hinv:Inv true st [] false:=by
  rcases hst with rfl|⟨rfl,_⟩
  ·exact⟨rfl,rfl⟩
  ·exact⟨rfl,rfl⟩
 have hfin:st=.fin→l.drop i=[]:=by
  rcases hst with rfl|⟨rfl,h⟩
  ·intro e;cases e
  ·exact fun _=>h
 have key:=fun(c:Code) (g:Led) (Z V:Nat)=>Et (w:=w) (J:=J) (dr:=dr) (os:=os) ⟨az g 4,az g 0,az g 1,az g 2,ia,p1,p2⟩ l hl (l.drop i) i true st [] false
  ⟨aP (au g 4),aP (au g 0),aP (au g 2),aN (au g 4),aN (au g 0),aN (au g 2),st0,nm [],ln,Z,V⟩ x rfl hi (Nat.zero_le _) hesc hfin hinv hx
 obtain⟨lx,hlx⟩:∃lx:Code→Led→Nat→Nat→LxS,∀(c:Code) (g:Led) (Z V:Nat) (Fz:bw),(∀b o,KF w.params b o→Fz b o)→jO aH w J dr os 600 (jJ w.params (az g 4)) Fz (zq ⟨az g 4,az g 0,az g 1,az g 2,ia,p1,p2⟩ ⟨aP (au g 4),aP (au g 0),aP (au g 2),aN (au g 4),aN (au g 0),aN (au g 2),st0,nm [],ln,Z,V⟩ true st [] false l i) Z V
   (.ok .next) Fz (zq ⟨az g 4,az g 0,az g 1,az g 2,ia,p1,p2⟩ (lx c g Z V) false x.2.2.1 x.1 x.2.1 l (l.length-x.2.2.2.length)) (lx c g Z V).Z (lx c g Z V).V:=
  ⟨fun c g Z V=>(key c g Z V).choose,fun c g Z V=>(key c g Z V).choose_spec⟩
 refine⟨lx,fun c g Z V=>⟨fun _ _ h=>h.elim,fun _ h=>(nomatch h),fun Fz hF=>?_⟩⟩
 have K:=hlx c g Z V Fz hF
 show jO aH w J dr os 600 (jJ w.params (az g 4)) Fz _ Z V (.ok .next) (aj Fz (fun _ _=>False)) _ (lx c g Z V).Z (lx c g Z V).V
 rw[bJ]
 exact K.perm (Ez _ _ _ _ _) (Ez _ _ _ _ _).symm
theorem t7 {P:Params}{lx:Code→Led→Nat→Nat→LxS}{ia p1 p2:Nat}{sv:Value}{st2:LS}{ln:Int}{buf tk:Str}{pos pos2:Int}{q:Bool}{k:Ant}(hF:∀b o,KF w.params b o→F b o)(h:∀c g Z V,bu aH w J dr os (KF w.params) (JG P lx ia p1 p2 sv st2 ln buf pos pos2 tk q c g Z V) Z V)(hk:aA aH w J dr os F k):aA aH w J dr os F (uW P lx ia p1 p2 sv st2 ln buf pos pos2 tk q k):=
 aV (fun _ _ _ _=>rfl) (fun c g Z V=>(h c g Z V).mono hF) hk
theorem Ka (l:List Nat)(hl:l.length≤50000)(i:Nat)(hi:i≤l.length)(hesc:∀c∈l.drop i,c≠92)(st:LS)(hst:zT st (l.drop i))(x:List Nat×Bool×LS×List Nat)(hx:bx st (l.drop i) [] false=some x)(da sa ba ia p1 p2:Nat)(k1 k3:Hk)(t1 t3:Tks)(st0:Nat)(ln:Int)(Z V:Nat):
  ∃o:RtO,bu aH w J dr os (KF w.params) (Zm da sa ba ia p1 p2 k1 k3 t1 t3 st st0 ln l i o x) Z V:=by
 obtain⟨lx,hlx⟩:=V2 (w:=w) (J:=J) (dr:=dr) (os:=os) l hl i hi hesc st hst x hx ia p1 p2 st0 ln
 have hs:=jB _ _ _ _ _ hx
 obtain⟨tk,q,st2,rest⟩:=x
 cases q with
 |true=>
  rcases hs with h|h
  ·cases h
   refine aL (ww w.params lx k1 k3 t1 t3 da sa ba ia p1 p2 (ig st st0) ln (nm l) i (l.length-rest.length:Nat) (nm tk) Z V) fun R hR H=>?_
   refine⟨⟨ak R 0,ak R 2,aq R 0,aq R 2,vG R 0,lC R 0 13,iW R,dw R,bk R⟩,?_⟩
   exact jN (objs:=rN da ba ia p1 p2 ⟨ak R 0,ak R 2,aq R 0,aq R 2,vG R 0,lC R 0 13,iW R,dw R,bk R⟩ .sp l (l.length-rest.length)) (new:=[]) hR H (fun _ _ h=>h) (fun _ h=>(nomatch h)) fun Fz hF=>t7 hF hlx trivial
  ·cases h
   refine aL (wF w.params lx k1 k3 t1 t3 da sa ba ia p1 p2 (ig st st0) ln (nm l) i (l.length-rest.length:Nat) (nm tk) Z V) fun R hR H=>?_
   refine⟨⟨ak R 0,ak R 2,aq R 0,aq R 2,vG R 0,lC R 0 13,iW R,dw R,bk R⟩,?_⟩
   exact jN (objs:=rN da ba ia p1 p2 ⟨ak R 0,ak R 2,aq R 0,aq R 2,vG R 0,lC R 0 13,iW R,dw R,bk R⟩ .fin l (l.length-rest.length)) (new:=[]) hR H (fun _ _ h=>h) (fun _ h=>(nomatch h)) fun Fz hF=>t7 hF hlx trivial
 |false=>
  cases tk with
  |nil=>
   rcases hs with h|h
   ·have hn:=jF _ _ _ _ _ (by rcases hst with rfl|⟨rfl,_⟩<;>(intro e;cases e)) hx h
    rcases hn with z|z
    ·exact absurd rfl z
    ·cases z
   ·cases h
    refine aL ((wy w.params lx k1 k3 t1 t3 da sa ba ia p1 p2 (ig st st0) ln (nm l) i (l.length-rest.length:Nat) (nm []) Z V).ex) fun R hR H=>?_
    refine⟨⟨ak R 0,ak R 2,aq R 0,aq R 2,vG R 0,lC R 0 13,iW R,dw R,bk R⟩,?_⟩
    exact jN (objs:=rN da ba ia p1 p2 ⟨ak R 0,ak R 2,aq R 0,aq R 2,vG R 0,lC R 0 13,iW R,dw R,bk R⟩ .fin l (l.length-rest.length)) (new:=[]) hR H (fun _ _ h=>h) (fun _ h=>(nomatch h)) fun Fz hF=>t7 hF hlx (gm rfl trivial)
  |cons a tk=>
   have hne:((nm (a::tk)).cps.toList==(nm []).cps.toList)=false:=rfl
   rcases hs with h|h
   ·cases h
    refine aL (v8 w.params lx k1 k3 t1 t3 da sa ba ia p1 p2 (ig st st0) ln (nm l) i (l.length-rest.length:Nat) (nm (a::tk)) Z V) fun R hR H=>?_
    refine⟨⟨ak R 0,ak R 2,aq R 0,aq R 2,vG R 0,lC R 0 13,iW R,dw R,bk R⟩,?_⟩
    exact jN (objs:=rN da ba ia p1 p2 ⟨ak R 0,ak R 2,aq R 0,aq R 2,vG R 0,lC R 0 13,iW R,dw R,bk R⟩ .sp l (l.length-rest.length)) (new:=[]) hR H (fun _ _ h=>h) (fun _ h=>(nomatch h)) fun Fz hF=>t7 hF hlx (gm hne trivial)
   ·cases h
    refine aL (wu w.params lx k1 k3 t1 t3 da sa ba ia p1 p2 (ig st st0) ln (nm l) i (l.length-rest.length:Nat) (nm (a::tk)) Z V) fun R hR H=>?_
    refine⟨⟨ak R 0,ak R 2,aq R 0,aq R 2,vG R 0,lC R 0 13,iW R,dw R,bk R⟩,?_⟩
    exact jN (objs:=rN da ba ia p1 p2 ⟨ak R 0,ak R 2,aq R 0,aq R 2,vG R 0,lC R 0 13,iW R,dw R,bk R⟩ .fin l (l.length-rest.length)) (new:=[]) hR H (fun _ _ h=>h) (fun _ h=>(nomatch h)) fun Fz hF=>t7 hF hlx (gm hne trivial)
end
end
noncomputable abbrev Qd:String:=SL.s5314052453082223887x17
noncomputable def lu:Obj:=⟨.type Qd,none,.fields ⟨[.none,.int 0 0]⟩,#[]⟩
noncomputable def Yd (rt:Code→Led→Nat→Nat→RtO)(ia p1 p2:Nat)(sv:Value)(st2:LS)(ln:Int)(buf:Str)(pos pos2:Int)(v:Nat→Value)(c:Code)(g:Led)(Z V:Nat):Ans:=
 ⟨.call (.ref 777) ⟨[.ref (az g 1)],[]⟩,560,[(az g 0,cD (aP (au g 0)) (aN (au g 0)) ia p1 p2 sv (nm []) ln),(az g 1,aC 809 (az g 0)),(az g 2,bV (aP (au g 2)) (aN (au g 2)) buf pos),(ia,aC 674 (az g 2))],
  .ok (.ret (v (rt c g Z V).vt)),[cD (rt c g Z V).k1 (rt c g Z V).t1 ia p1 p2 (ig st2 (rt c g Z V).st0) (nm []) (rt c g Z V).ln,aC 809 (az g 0),bV (rt c g Z V).k3 (rt c g Z V).t3 buf pos2,aC 674 (az g 2)],
  [],fun _ _=>False,[],(rt c g Z V).Z,(rt c g Z V).V⟩
noncomputable def Pq (rt:Code→Led→Nat→Nat→RtO)(m ia p1 p2:Nat)(sv:Value)(st2:LS)(ln:Int)(buf:Str)(pos pos2:Int)(v:Nat→Value):An:=fun k=>.cons m (Yd rt ia p1 p2 sv st2 ln buf pos pos2 v) fun _ _ _ _=>k
theorem wB P (rt:Code→Led→Nat→Nat→RtO) k1 k3 t1 t3 da sa ba ia p1 p2 sv ln buf pos pos2 tk Z V:∃R,run P 520 240 Vq (.call (.ref 806) ⟨[.ref sa],[]⟩) [(da,cD k1 t1 ia p1 p2 sv (nm []) ln),(sa,aC 809 da),(ba,bV k3 t3 buf pos),(ia,aC 674 ba),(p1,lu),(p2,lu)] Z V [] (Pq rt 15 ia p1 p2 sv .sp ln buf pos pos2 (fun vt=>.str tk vt) .nil)=R∧vw R 63=(true,true,.done (.ret (.str tk (iW R))),[(da,cD (ak R 0) (aq R 0) ia p1 p2 (ig .sp (vG R 0)) (nm []) (lC R 0 13)),(sa,aC 809 da),(ba,bV (ak R 2) (aq R 2) buf pos2),(ia,aC 674 ba),(p1,lu),(p2,lu)],rights (cH R)):=⟨_,rfl,by kernel_rfl⟩
theorem wg P (rt:Code→Led→Nat→Nat→RtO) k1 k3 t1 t3 da sa ba ia p1 p2 sv ln buf pos pos2 tk Z V:∃R,run P 520 240 Vq (.call (.ref 806) ⟨[.ref sa],[]⟩) [(da,cD k1 t1 ia p1 p2 sv (nm []) ln),(sa,aC 809 da),(ba,bV k3 t3 buf pos),(ia,aC 674 ba),(p1,lu),(p2,lu)] Z V [] (Pq rt 15 ia p1 p2 sv .fin ln buf pos pos2 (fun vt=>.str tk vt) .nil)=R∧vw R 63=(true,true,.done (.ret (.str tk (iW R))),[(da,cD (ak R 0) (aq R 0) ia p1 p2 (ig .fin (vG R 0)) (nm []) (lC R 0 13)),(sa,aC 809 da),(ba,bV (ak R 2) (aq R 2) buf pos2),(ia,aC 674 ba),(p1,lu),(p2,lu)],rights (cH R)):=⟨_,rfl,by kernel_rfl⟩
section
noncomputable def Xe (nx:Code→Led→Nat→Nat→RtO)(ia p1 p2:Nat)(sv:Value)(st2:LS)(ln:Int)(buf:Str)(pos pos2:Int)(tk:Str)(c:Code)(g:Led)(Z V:Nat):Ans:=
 ⟨.call (.ref 806) ⟨[.ref (az g 1)],[]⟩,520,[(az g 0,cD (aP (au g 0)) (aN (au g 0)) ia p1 p2 sv (nm []) ln),(az g 1,aC 809 (az g 0)),(az g 2,bV (aP (au g 2)) (aN (au g 2)) buf pos),(ia,aC 674 (az g 2)),(p1,lu),(p2,lu)],
  .ok (.ret (.str tk (nx c g Z V).vt)),[cD (nx c g Z V).k1 (nx c g Z V).t1 ia p1 p2 (ig st2 (nx c g Z V).st0) (nm []) (nx c g Z V).ln,aC 809 (az g 0),bV (nx c g Z V).k3 (nx c g Z V).t3 buf pos2,aC 674 (az g 2),lu,lu],
  [],fun _ _=>False,[],(nx c g Z V).Z,(nx c g Z V).V⟩
noncomputable def Np (nx:Code→Led→Nat→Nat→RtO)(m ia p1 p2:Nat)(sv:Value)(st2:LS)(ln:Int)(buf:Str)(pos pos2:Int)(tk:Str):An:=fun k=>.cons m (Xe nx ia p1 p2 sv st2 ln buf pos pos2 tk) fun _ _ _ _=>k
section
variable {w:World} {J:Array GenState} {dr:Drawn} {os:Osw} {F:bw}
theorem Ti (l:List Nat)(hl:l.length≤50000)(i:Nat)(hi:i≤l.length)(hesc:∀c∈l.drop i,c≠92)(st:LS)(hst:zT st (l.drop i))(x:List Nat×Bool×LS×List Nat)(hx:bx st (l.drop i) [] false=some x)(ia p1 p2 st0:Nat)(ln:Int):
  ∃rt:Code→Led→Nat→Nat→RtO,∀c g Z V,bu aH w J dr os (KF w.params) (Yd rt ia p1 p2 (ig st st0) x.2.2.1 ln (nm l) i (l.length-x.2.2.2.length:Nat) (fun vt=>Mu x.1 x.2.1 vt) c g Z V) Z V:=by
 have:=fun(c:Code) (g:Led) (Z V:Nat)=>Ka (w:=w) (J:=J) (dr:=dr) (os:=os) l hl i hi hesc st hst x hx (az g 0) (az g 1) (az g 2) ia p1 p2 (aP (au g 0)) (aP (au g 2)) (aN (au g 0)) (aN (au g 2)) st0 ln Z V
 exact⟨fun c g Z V=>(this c g Z V).choose,fun c g Z V=>(this c g Z V).choose_spec⟩
theorem Og {rt:Code→Led→Nat→Nat→RtO}{m ia p1 p2:Nat}{sv:Value}{st2:LS}{ln:Int}{buf:Str}{pos pos2:Int}{v:Nat→Value}{k:Ant}(hF:∀b o,KF w.params b o→F b o)(h:∀c g Z V,bu aH w J dr os (KF w.params) (Yd rt ia p1 p2 sv st2 ln buf pos pos2 v c g Z V) Z V)(hk:aA aH w J dr os F k):aA aH w J dr os F (Pq rt m ia p1 p2 sv st2 ln buf pos pos2 v k):=
 aV (fun _ _ _ _=>rfl) (fun c g Z V=>(h c g Z V).mono hF) hk
noncomputable def ql (da sa ba ia p1 p2:Nat)(k1 k3:Hk)(t1 t3:Tks)(sv:Value)(ln:Int)(buf:Str)(pos:Int):Led:=
 [(da,cD k1 t1 ia p1 p2 sv (nm []) ln),(sa,aC 809 da),(ba,bV k3 t3 buf pos),(ia,aC 674 ba),(p1,lu),(p2,lu)]
theorem Km {tk:List Nat}{q:Bool}(h:(q || !tk.isEmpty)=true):(fun vt=>Mu tk q vt)=fun vt=>.str (nm tk) vt:=by
 funext vt
 unfold Mu
 rw[h];rfl
theorem RC (l:List Nat)(hl:l.length≤50000)(i:Nat)(hi:i≤l.length)(hesc:∀c∈l.drop i,c≠92)(st:LS)(hst:zT st (l.drop i))(x:List Nat×Bool×LS×List Nat)(hx:bx st (l.drop i) [] false=some x)(hn:(x.2.1 || !x.1.isEmpty)=true)(ia p1 p2 st0:Nat)(ln:Int):
  ∃nx:Code→Led→Nat→Nat→RtO,∀c g Z V,bu aH w J dr os (KF w.params) (Xe nx ia p1 p2 (ig st st0) x.2.2.1 ln (nm l) i (l.length-x.2.2.2.length:Nat) (nm x.1) c g Z V) Z V:=by
 obtain⟨rt,hrt⟩:=Ti (w:=w) (J:=J) (dr:=dr) (os:=os) l hl i hi hesc st hst x hx ia p1 p2 st0 ln
 rw[Km hn] at hrt
 have key:∀(c:Code) (g:Led) (Z V:Nat),∃o:RtO,bu aH w J dr os (KF w.params) (Xe (fun _ _ _ _=>o) ia p1 p2 (ig st st0) x.2.2.1 ln (nm l) i (l.length-x.2.2.2.length:Nat) (nm x.1) c g Z V) Z V:=fun c g Z V=>by
  rcases jB _ _ _ _ _ hx with h|h
  ·rw[h] at hrt ⊢
   refine aL (wB w.params rt (aP (au g 0)) (aP (au g 2)) (aN (au g 0)) (aN (au g 2)) (az g 0) (az g 1) (az g 2) ia p1 p2 (ig st st0) ln (nm l) i (l.length-x.2.2.2.length:Nat) (nm x.1) Z V) fun R hR H=>?_
   refine⟨⟨ak R 0,ak R 2,aq R 0,aq R 2,vG R 0,lC R 0 13,iW R,dw R,bk R⟩,?_⟩
   exact jN (new:=[]) hR H (fun _ _ h=>h) (fun _ h=>(nomatch h)) fun Fz hF=>Og hF hrt trivial
  ·rw[h] at hrt ⊢
   refine aL (wg w.params rt (aP (au g 0)) (aP (au g 2)) (aN (au g 0)) (aN (au g 2)) (az g 0) (az g 1) (az g 2) ia p1 p2 (ig st st0) ln (nm l) i (l.length-x.2.2.2.length:Nat) (nm x.1) Z V) fun R hR H=>?_
   refine⟨⟨ak R 0,ak R 2,aq R 0,aq R 2,vG R 0,lC R 0 13,iW R,dw R,bk R⟩,?_⟩
   exact jN (new:=[]) hR H (fun _ _ h=>h) (fun _ h=>(nomatch h)) fun Fz hF=>Og hF hrt trivial
 exact⟨fun c g Z V=>(key c g Z V).choose,fun c g Z V=>(key c g Z V).choose_spec⟩
theorem Ws {nx:Code→Led→Nat→Nat→RtO}{m ia p1 p2:Nat}{sv:Value}{st2:LS}{ln:Int}{buf tk:Str}{pos pos2:Int}{k:Ant}(hF:∀b o,KF w.params b o→F b o)(h:∀c g Z V,bu aH w J dr os (KF w.params) (Xe nx ia p1 p2 sv st2 ln buf pos pos2 tk c g Z V) Z V)(hk:aA aH w J dr os F k):aA aH w J dr os F (Np nx m ia p1 p2 sv st2 ln buf pos pos2 tk k):=
 aV (fun _ _ _ _=>rfl) (fun c g Z V=>(h c g Z V).mono hF) hk
end
end
section
open Sem (wp)
noncomputable def Lj (P:Params)(lim n h:Nat)(c:Code)(t:Sem Fin)(led:Led)(Z V:Nat)(ro:Led)(ant:Ant):Res:=
 lN (jG aH (ktop P) P lim none) n h c .base 0 t led Z V ro ant (fun _ _=>False) []
noncomputable def nextT (v:Value):Sem Fin:=R.bindR (Fast.tw9404975358583537561 v) fun o=>.pure (.done (match o with|some v=>.ret v|none=>.next))
section
variable {w:World} {J:Array GenState} {dr:Drawn} {os:Osw} {F:bw} {led led':Led} {Z V:Nat}
theorem tL {g:Cfg}(G:Sound g aH w)(hgk:g.kt=ktop w.params)(hgf:g.fr=none){n h:Nat}{c:Code}{t:Sem Fin}{ro:Led}{ant:Ant}{m:Nat}{f:Flow}{R:Res}(hR:lN g n h c .base 0 t led Z V ro ant (fun _ _=>False) []=R)(H:vw R m=(true,true,.done f,led',rights (cH R)))(hkt:∀a o,(ktop w.params).get a=some o→F a o)(hro:∀p∈ro,F p.1 p.2)(hant:aA aH w J dr os F ant){A:Around}(hA:A.depth≤g.lim)(hU:A.units≤2*g.lim)(hh:A.handled=none){R₀:Result→Shared→Prop}(K:∀s',Rel (frame (aj F (rF R)) (iQ m (fH R))) J dr os led' (dw R) (bk R) s'→R₀ (.ok f) s'){s:Shared}(r:Rel F J dr os led Z V s):
  wpOwn (model aH w) A c t (postC aH w A R₀) (postE R₀) s:=by
 refine dm (bT H) fun h1 h2 h3 h4 h5=>?_
 cases R with
 |bad _ _=>cases h1
 |ok σ=>
  refine uJ G ⟨hA,hU,hh,by rw[hgf];exact fun _ q=>nomatch q⟩ ⟨rfl,hant,hro,by rw[hgk];exact hkt⟩ hR (zc h5) (fun s' r'=>?_) r
  rw[sZ h3,rJ h2]
  have r2:=r'.small m
  have h4':di m σ.led=led':=h4
  rw[h4'] at r2
  exact fun _ _ _ _=>K s' r2
noncomputable def V4 (P:Params)(lim:Nat)(b:Bool):Cfg:={jG aH (ktop P) P lim none with st:=fun _=>⟨aH,Hc P b⟩}
theorem DW (w:World)(lim:Nat){b:Bool}(hb:w.params.followText "special-get-raises"=b):Sound (V4 w.params lim b) aH w:=
 have S:=oY aH w (ktop w.params) lim none
 ⟨S.dn,S.fn,S.fb,S.wl,S.fbR,S.flR,S.clR,S.qt,⟨true,by show(⟨aH,Hc w.params b⟩:Setting)=_;rw[←hb,Gu]⟩⟩
noncomputable def S8 (P:Params)(b:Bool)(lim n h:Nat)(c:Code)(t:Sem Fin)(led:Led)(Z V:Nat)(ro:Led)(ant:Ant):Res:=
 lN (V4 P lim b) n h c .base 0 t led Z V ro ant (fun _ _=>False) []
theorem Hf {lim n h:Nat}{c:Code}{t:Sem Fin}{ro:Led}{ant:Ant}{m:Nat}{f:Flow}{R:Res}(hR:Lj w.params lim n h c t led Z V ro ant=R)(H:vw R m=(true,true,.done f,led',rights (cH R)))(hkt:∀a o,(ktop w.params).get a=some o→F a o)(hro:∀p∈ro,F p.1 p.2)(hant:aA aH w J dr os F ant){A:Around}(hA:A.depth≤lim)(hU:A.units≤2*lim)(hh:A.handled=none){R₀:Result→Shared→Prop}(K:∀s',Rel (frame (aj F (rF R)) (iQ m (fH R))) J dr os led' (dw R) (bk R) s'→R₀ (.ok f) s'){s:Shared}(r:Rel F J dr os led Z V s):
  wpOwn (model aH w) A c t (postC aH w A R₀) (postE R₀) s:=tL (oY aH w (ktop w.params) lim none) rfl rfl hR H hkt hro hant hA hU hh K r
theorem I4 {A:Around}{c:Code}{v:Value}{f:Option Value→Sem Fin}{Q:Fin→Shared→Prop}{E:Value→Shared→Prop}{s:Shared}(h:wpOwn (model aH w) A c (nextT v) (postC aH w A fun r s'=>match r with
   |.ok (.ret v)=>wpOwn (model aH w) A c (f (some v)) Q E s'
   |.ok .next=>wpOwn (model aH w) A c (f none) Q E s'
   |.error e=>E e s'
   |_=>False) (postE fun r s'=>match r with
   |.ok (.ret v)=>wpOwn (model aH w) A c (f (some v)) Q E s'
   |.ok .next=>wpOwn (model aH w) A c (f none) Q E s'
   |.error e=>E e s'
   |_=>False) s):wpOwn (model aH w) A c (pyNext v>>=f) Q E s:=fun Γ p hc hΓ=>by
 have x:=h Γ p hc hΓ
 unfold nextT at x
 rw[←R.bindR_eq,←Fast.te9404975358583537561] at x
 have x':wp (model aH w) Γ (pyNext v>>=fun o=>(.pure (.done (match o with|some v=>.ret v|none=>.next)):Sem Fin)) _ _ p s:=x
 rw[Sem.wp_bind'] at x' ⊢
 refine Sem.wp_mono _ _ _ (fun o p1 s1 h1=>?_) (fun e p1 s1 h1=>h1) p s x'
 cases o with
 |none=>exact(show wpOwn _ _ _ _ _ _ _ from h1) Γ p1 hc hΓ
 |some v=>exact(show wpOwn _ _ _ _ _ _ _ from h1) Γ p1 hc hΓ
end
end
theorem wz P (nx:Code→Led→Nat→Nat→RtO) (c0:Code) k1 k3 t1 t3 da sa ba ia p1 p2 sv ln buf pos pos2 tk la Z V:∃R,Lj P 500 7 1099511627778 (.builtin "list.extend.loop" ⟨[.ref la,.ref sa,.none],[]⟩) (nextT (.ref sa)) [(da,cD k1 t1 ia p1 p2 sv (nm []) ln),(sa,aC 809 da),(ba,bV k3 t3 buf pos),(ia,aC 674 ba),(p1,lu),(p2,lu)] Z V [] (Np nx 63 ia p1 p2 sv .sp ln buf pos pos2 tk .nil)=R∧vw R 63=(true,true,.done (.ret (.str tk (iW R))),[(da,cD (ak R 0) (aq R 0) ia p1 p2 (ig .sp (vG R 0)) (nm []) (lC R 0 13)),(sa,aC 809 da),(ba,bV (ak R 2) (aq R 2) buf pos2),(ia,aC 674 ba),(p1,lu),(p2,lu)],rights (cH R)):=⟨_,rfl,by kernel_rfl⟩
theorem wD P (nx:Code→Led→Nat→Nat→RtO) (c0:Code) k1 k3 t1 t3 da sa ba ia p1 p2 sv ln buf pos pos2 tk la Z V:∃R,Lj P 500 7 1099511627778 (.builtin "list.extend.loop" ⟨[.ref la,.ref sa,.none],[]⟩) (nextT (.ref sa)) [(da,cD k1 t1 ia p1 p2 sv (nm []) ln),(sa,aC 809 da),(ba,bV k3 t3 buf pos),(ia,aC 674 ba),(p1,lu),(p2,lu)] Z V [] (Np nx 63 ia p1 p2 sv .fin ln buf pos pos2 tk .nil)=R∧vw R 63=(true,true,.done (.ret (.str tk (iW R))),[(da,cD (ak R 0) (aq R 0) ia p1 p2 (ig .fin (vG R 0)) (nm []) (lC R 0 13)),(sa,aC 809 da),(ba,bV (ak R 2) (aq R 2) buf pos2),(ia,aC 674 ba),(p1,lu),(p2,lu)],rights (cH R)):=⟨_,rfl,by kernel_rfl⟩
section
open Sem (wp)
theorem mH:∀(r:List Nat) (st:LS) (tk:List Nat) (q:Bool) (o:List Nat×Bool×LS×List Nat),(st=.fin→r=[])→bx st r tk q=some o→o.2.2.1=.fin→o.2.2.2=[]
 |[],st,tk,q,o,hv,h,hs=>by cases st<;>cases h<;>rfl
 |c::r,st,tk,q,o,hv,h,hs=>by
  cases st with
  |fin=>cases hv rfl
  |sp=>
   unfold bx at h
   split at h
   ·exact mH r _ _ _ _ (by intro e;cases e) h hs
   ·split at h<;>exact mH r _ _ _ _ (by intro e;cases e) h hs
  |wd=>
   unfold bx at h
   split at h
   ·cases h;cases hs
   ·split at h<;>exact mH r _ _ _ _ (by intro e;cases e) h hs
  |qt x=>
   unfold bx at h
   split at h<;>exact mH r _ _ _ _ (by intro e;cases e) h hs
theorem iw:∀(r:List Nat) (st:LS) (tk:List Nat) (q:Bool) (o:List Nat×Bool×LS×List Nat),bx st r tk q=some o→o.2.2.2 <:+ r
 |[],st,tk,q,o,h=>by cases st<;>cases h<;>exact List.suffix_refl _
 |c::r,st,tk,q,o,h=>by
  cases st with
  |fin=>cases h;exact List.suffix_refl _
  |sp=>
   unfold bx at h
   split at h
   ·exact(iw r _ _ _ _ h).trans (List.suffix_cons c r)
   ·split at h<;>exact(iw r _ _ _ _ h).trans (List.suffix_cons c r)
  |wd=>
   unfold bx at h
   split at h
   ·cases h;exact List.suffix_cons c r
   ·split at h<;>exact(iw r _ _ _ _ h).trans (List.suffix_cons c r)
  |qt x=>
   unfold bx at h
   split at h<;>exact(iw r _ _ _ _ h).trans (List.suffix_cons c r)
theorem lr {l r:List Nat}(h:r <:+ l):l.drop (l.length-r.length)=r:=by
 obtain⟨t,rfl⟩:=h
 rw[List.length_append,Nat.add_sub_cancel]
 exact List.drop_left
inductive Toks:LS→List Nat→List (List Nat)→LS→List Nat→Prop where
 |nil (st:LS) (r:List Nat):Toks st r [] st r
 |cons {st st1 st2:LS} {r r1 r2 tk:List Nat} {q:Bool} {ts:List (List Nat)} (h:bx st r [] false=some (tk,q,st1,r1)) (hn:(q || !tk.isEmpty)=true) (t:Toks st1 r1 ts st2 r2):Toks st r (tk::ts) st2 r2
theorem Toks.suffix {st st':LS}{r r':List Nat}{ts:List (List Nat)}(t:Toks st r ts st' r'):r' <:+ r:=by
 induction t with
 |nil=>exact List.suffix_refl _
 |cons h _ _ ih=>exact ih.trans (iw _ _ _ _ _ h)
theorem Toks.ok {st st':LS}{r r':List Nat}{ts:List (List Nat)}(t:Toks st r ts st' r')(h:zT st r):zT st' r':=by
 induction t with
 |nil=>exact h
 |cons hx _ _ ih=>
  refine ih ?_
  rcases jB _ _ _ _ _ hx with e|e
  ·exact .inl e
  ·refine .inr ⟨e,mH _ _ _ _ _ ?_ hx e⟩
   rcases h with rfl|⟨rfl,h⟩
   ·intro z;cases z
   ·exact fun _=>h
noncomputable def fJ:List (List Nat)→List Nat→List Value
 |tk::ts,v::vs=>.str (nm tk) v::fJ ts vs
 |_,_=>[]
structure ExO where
 ep:Nat
 vts:List Nat
 k1:Hk
 k3:Hk
 t1:Tks
 t3:Tks
 st0:Nat
 ln:Int
 Z:Nat
 V:Nat
noncomputable def xf (la da sa ba ia p1 p2:Nat)(ep:Nat)(vs:List Value)(k1 k3:Hk)(t1 t3:Tks)(sv:Value)(ln:Int)(l:List Nat)(i:Nat):Led:=
 (la,aa ep vs)::ql da sa ba ia p1 p2 k1 k3 t1 t3 sv ln (nm l) i
noncomputable abbrev yI (la sa:Nat):Code:=.builtin "list.extend.loop" ⟨[.ref la,.ref sa,.none],[]⟩
theorem xJ:plainId "list.extend.loop"=true:=by decide +kernel
theorem IW:entryFor table "list.extend.loop"=some Builtin.«list.extend.loop»:=entryFor_of_fast (by kernel_rfl)
theorem vU {id:String}{args:Args}{b:Builtin}(hb:entryFor table id=some b):denote table (.builtin id args)=b args:=by
 show(match entryFor table id with|some b=>b args|none=>unsupported ((withoutEnding? id "#data").getD id))=_
 rw[hb]
theorem Px (la sa:Nat):denote table (yI la sa)=(pyNext (.ref sa)>>=fun o=>match o with
   |none=>ret .none
   |some x=>Builtin.List.listUpdate (.ref la) (·.push x)>>=fun _=>again (yI la sa)):=by
 have e:denote table (yI la sa)=Builtin.«list.extend.loop» ⟨[.ref la,.ref sa,.none],[]⟩:=vU IW
 rw[e]
 unfold Builtin.«list.extend.loop»
 refine congrArg (pyNext (.ref sa) >>= ·) (funext fun o=>?_)
 cases o<;>rfl
section
variable {w:World} {J:Array GenState} {dr:Drawn} {os:Osw} {F:bw} {led led':Led} {Z V:Nat}
theorem Rel.cons {s:Shared}{p:Addr×Obj}(r:Rel F J dr os (p::led) Z V s):Rel (frame F [p]) J dr os led Z V s:=by
 refine⟨r.size,fun b o h=>?_,fun q hq=>r.own q (.tail _ hq),fun q hq o h=>?_,(List.nodup_cons.mp r.nd).2,r.rest,fun q hq=>?_⟩
 ·rcases h with h|h
  ·exact r.keep b o h
  ·rw[List.mem_singleton] at h;exact r.own (b,o) (h ▸ .head _)
 ·rcases h with h|h
  ·exact r.apart q (.tail _ hq) o h
  ·rw[List.mem_singleton] at h
   have e:q.1=p.1:=by rw[←h]
   exact(List.nodup_cons.mp r.nd).1 (List.mem_map.mpr ⟨q,hq,e⟩)
 ·refine aK (r.wf q hq) fun h1 h2 h3=>?_
  refine⟨h1,fun o h=>?_,fun hm=>h3 (List.mem_cons_of_mem _ hm)⟩
  rcases h with h|h
  ·exact h2 o h
  ·rw[List.mem_singleton] at h
   exact h3 (List.mem_map.mpr ⟨p,.head _,by rw[←h]⟩)
theorem Rel.uncons {s s':Shared}{p:Addr×Obj}{Z' V':Nat}(r:Rel F J dr os (p::led) Z V s)(r':Rel (frame F [p]) J dr os led' Z' V' s'):Rel F J dr os (p::led') Z' V' s':=by
 refine⟨r'.size,fun b o h=>r'.keep b o (.inl h),fun q hq=>?_,fun q hq o h=>?_,?_,r'.rest,fun q hq=>?_⟩
 ·rcases List.mem_cons.mp hq with e|e
  ·exact r'.keep q.1 q.2 (.inr (e▸List.mem_singleton.mpr rfl))
  ·exact r'.own q e
 ·rcases List.mem_cons.mp hq with e|e
  ·exact r.apart q (e ▸ .head _) o h
  ·exact r'.apart q e o (.inl h)
 ·refine List.nodup_cons.mpr ⟨fun hm=>?_,r'.nd⟩
  refine aL (List.mem_map.mp hm) fun q hq e=>?_
  exact r'.apart q hq p.2 (.inr (by rw[List.mem_singleton];exact Prod.ext e rfl))
 ·refine aK (r'.wf q hq) fun h1 h2 h3=>?_
  refine⟨h1,fun o h=>h2 o (.inl h),fun hm=>?_⟩
  rcases List.mem_cons.mp hm with e|e
  ·exact h2 p.2 (.inr (by rw[List.mem_singleton];exact Prod.ext e rfl))
  ·exact h3 e
theorem wG (l:List Nat)(hl:l.length≤50000)(i:Nat)(hi:i≤l.length)(hesc:∀c∈l.drop i,c≠92)(st:LS)(hst:zT st (l.drop i))(x:List Nat×Bool×LS×List Nat)(hx:bx st (l.drop i) [] false=some x)(hn:(x.2.1 || !x.1.isEmpty)=true)(la da sa ba ia p1 p2:Nat)(ep:Nat)(vs:List Value)(hvs:vs.length≤50000)(k1 k3:Hk)(t1 t3:Tks)(st0:Nat)(ln:Int)(Z V:Nat):
  ∃(o:ExO) (vt:Nat),∀Fz:bw,(∀b o,KF w.params b o→Fz b o)→∀A:Around,A.depth≤490→A.units≤980→A.handled=none→∀R:Result→Shared→Prop,
   (∀s',Rel Fz J dr os (xf la da sa ba ia p1 p2 o.ep (vs++[.str (nm x.1) vt]) o.k1 o.k3 o.t1 o.t3 (ig x.2.2.1 o.st0) o.ln l (l.length-x.2.2.2.length)) o.Z o.V s'→codeAny (model aH w) A (yI la sa) R s')→
   ∀s,Rel Fz J dr os (xf la da sa ba ia p1 p2 ep vs k1 k3 t1 t3 (ig st st0) ln l i) Z V s→codeAny (model aH w) A (yI la sa) R s:=by
 obtain⟨nx,hnx⟩:=RC (w:=w) (J:=J) (dr:=dr) (os:=os) l hl i hi hesc st hst x hx hn ia p1 p2 st0 ln
 obtain⟨R₁,st2,hs2,hR,H⟩:∃(R₁:Res) (st2:LS),x.2.2.1=st2∧(∃n h,Lj w.params 500 n h (yI la sa) (nextT (.ref sa)) (ql da sa ba ia p1 p2 k1 k3 t1 t3 (ig st st0) ln (nm l) i) Z V [] (Np nx 63 ia p1 p2 (ig st st0) st2 ln (nm l) i (l.length-x.2.2.2.length:Nat) (nm x.1) .nil)=R₁)∧
   vw R₁ 63=(true,true,.done (.ret (.str (nm x.1) (iW R₁))),ql da sa ba ia p1 p2 (ak R₁ 0) (ak R₁ 2) (aq R₁ 0) (aq R₁ 2) (ig st2 (vG R₁ 0)) (lC R₁ 0 13) (nm l) (l.length-x.2.2.2.length:Nat),rights (cH R₁)):=by
  rcases jB _ _ _ _ _ hx with h|h
  ·refine aL (wz w.params nx (yI la sa) k1 k3 t1 t3 da sa ba ia p1 p2 (ig st st0) ln (nm l) i (l.length-x.2.2.2.length:Nat) (nm x.1) la Z V) fun R hR H=>?_
   exact⟨R,.sp,h,⟨_,_,hR⟩,H⟩
  ·refine aL (wD w.params nx (yI la sa) k1 k3 t1 t3 da sa ba ia p1 p2 (ig st st0) ln (nm l) i (l.length-x.2.2.2.length:Nat) (nm x.1) la Z V) fun R hR H=>?_
   exact⟨R,.fin,h,⟨_,_,hR⟩,H⟩
 refine aJ hR fun n h hR=>?_
 rw[hs2] at hnx ⊢
 refine⟨⟨jM ((aa ep vs).mapSeq (·.push (.str (nm x.1) (iW R₁)))),[],ak R₁ 0,ak R₁ 2,aq R₁ 0,aq R₁ 2,vG R₁ 0,lC R₁ 0 13,dw R₁,bk R₁⟩,iW R₁,fun Fz hF A hA hU hh R K s r=>?_⟩
 have hA2:(A.under (yI la sa)).depth≤500:=by
  rw[Around.under_plainId xJ];show A.depth≤500;lia
 refine y_code _ _ _ _ _ _ ?_
 rw[Px]
 refine I4 ?_
 refine Hf (F:=frame Fz [(la,aa ep vs)]) hR H (fun a o h=>.inl (hF a o h)) (fun _ h=>(nomatch h)) (Ws (fun b o h=>.inl (hF b o h)) hnx trivial) (by lia) (by lia) hh (fun s' r'=>?_) r.cons
 have r2:Rel Fz J dr os ((la,aa ep vs)::ql da sa ba ia p1 p2 (ak R₁ 0) (ak R₁ 2) (aq R₁ 0) (aq R₁ 2) (ig st2 (vG R₁ 0)) (lC R₁ 0 13) (nm l) (l.length-x.2.2.2.length:Nat)) (dw R₁) (bk R₁) s':=
  r.uncons (r'.anti fun b o h=>.inl (.inl h))
 have ho:=r2.own _ (.head _)
 intro Γ p hc hΓ
 have hin:Γ.In (A.under (yI la sa)):=hc▸hΓ.in
 refine wpAny_bind (A:=A.under (yI la sa)) (m:=Builtin.List.listUpdate (.ref la) (·.push (.str (nm x.1) (iW R₁)))) (wpAny_updateSeq (f:=fun a=>a.push (.str (nm x.1) (iW R₁))) ho rfl ?_ ?_ ?_) Γ p hin
 ·intro Γ' p' hΓ'
  refine⟨plainId_quiet xJ _,?_⟩
  refine K _ ?_
  have r3:=r2.upd (i:=0) (p:=(la,aa ep vs)) (f:=Obj.mapSeq (·.push (.str (nm x.1) (iW R₁)))) rfl rfl
  have e1:Di (Obj.mapSeq (·.push (.str (nm x.1) (iW R₁)))) ((la,aa ep vs)::ql da sa ba ia p1 p2 (ak R₁ 0) (ak R₁ 2) (aq R₁ 0) (aq R₁ 2) (ig st2 (vG R₁ 0)) (lC R₁ 0 13) (nm l) (l.length-x.2.2.2.length:Nat)) 0=
    xf la da sa ba ia p1 p2 (jM ((aa ep vs).mapSeq (·.push (.str (nm x.1) (iW R₁))))) (vs++[.str (nm x.1) (iW R₁)]) (ak R₁ 0) (ak R₁ 2) (aq R₁ 0) (aq R₁ 2) (ig st2 (vG R₁ 0)) (lC R₁ 0 13) l (l.length-x.2.2.2.length):=by
   show(la,(aa ep vs).mapSeq (·.push (.str (nm x.1) (iW R₁))))::_=(la,aa _ _)::_
   refine congrArg (·::_) (congrArg (Prod.mk la) ?_)
   show(⟨.type qZ,none,.seq ((⟨vs⟩:Array Value).push (.str (nm x.1) (iW R₁))) _,#[]⟩:Obj)=⟨.type qZ,none,.seq ⟨vs++[.str (nm x.1) (iW R₁)]⟩ _,#[]⟩
   have:(⟨vs⟩:Array Value).push (.str (nm x.1) (iW R₁))=⟨vs++[.str (nm x.1) (iW R₁)]⟩:=by simp
   rw[this]
   rfl
  rw[e1] at r3
  exact r3
 ·show vs.length≤sizeLine
  have:sizeLine=16777216:=rfl
  lia
 ·show((⟨vs⟩:Array Value).push _).size≤_
  rw[Array.size_push]
  show vs.length+1≤sizeLine+1
  have:sizeLine=16777216:=rfl
  lia
theorem m5 (l:List Nat)(hl:l.length≤50000)(hesc:∀c∈l,c≠92)(la da sa ba ia p1 p2:Nat):∀{ts:List (List Nat)} {st st':LS} {r r':List Nat},Toks st r ts st' r'→∀(i:Nat),l.drop i=r→i≤l.length→zT st r→∀(ep:Nat) (vs:List Value),vs.length+ts.length≤50000→
  ∀(k1 k3:Hk) (t1 t3:Tks) (st0:Nat) (ln:Int) (Z V:Nat),
  ∃o:ExO,o.vts.length=ts.length∧∀Fz:bw,(∀b o,KF w.params b o→Fz b o)→∀A:Around,A.depth≤490→A.units≤980→A.handled=none→∀R:Result→Shared→Prop,
   (∀s',Rel Fz J dr os (xf la da sa ba ia p1 p2 o.ep (vs++fJ ts o.vts) o.k1 o.k3 o.t1 o.t3 (ig st' o.st0) o.ln l (l.length-r'.length)) o.Z o.V s'→codeAny (model aH w) A (yI la sa) R s')→
   ∀s,Rel Fz J dr os (xf la da sa ba ia p1 p2 ep vs k1 k3 t1 t3 (ig st st0) ln l i) Z V s→codeAny (model aH w) A (yI la sa) R s:=by
 intro ts st st' r r' t
 induction t with
 |nil st r=>
  intro i hd hi _ ep vs _ k1 k3 t1 t3 st0 ln Z V
  refine⟨⟨ep,[],k1,k3,t1,t3,st0,ln,Z,V⟩,rfl,fun Fz _ A _ _ _ R K s rl=>K s ?_⟩
  have e:l.length-r.length=i:=by rw[←hd,List.length_drop];lia
  have e2:vs++fJ [] []=vs:=List.append_nil vs
  rw[e,e2]
  exact rl
 |@cons st st1 st2 r r1 r2 tk q ts h hn t ih=>
  intro i hd hi hst ep vs hlen k1 k3 t1 t3 st0 ln Z V
  subst hd
  have hlen':vs.length+ts.length+1≤50000:=hlen
  refine aJ (wG (w:=w) (J:=J) (dr:=dr) (os:=os) l hl i hi (fun c hc=>hesc c (List.drop_subset _ _ hc)) st hst (tk,q,st1,r1) h hn la da sa ba ia p1 p2 ep vs (by lia) k1 k3 t1 t3 st0 ln Z V) fun o vt K1=>?_
  have hsuf:r1 <:+ l:=(iw _ _ _ _ _ h).trans (List.drop_suffix i l)
  have hst1:zT st1 r1:=(Toks.cons h hn (.nil st1 r1)).ok hst
  refine aL (ih (l.length-r1.length) (lr hsuf) (Nat.sub_le _ _) hst1 o.ep (vs++[.str (nm tk) vt]) (by rw[List.length_append];show vs.length+1+ts.length≤_;lia) o.k1 o.k3 o.t1 o.t3 o.st0 o.ln o.Z o.V) fun o2 ho2 K2=>?_
  refine⟨⟨o2.ep,vt::o2.vts,o2.k1,o2.k3,o2.t1,o2.t3,o2.st0,o2.ln,o2.Z,o2.V⟩,by show o2.vts.length+1=ts.length+1;rw[ho2],fun Fz hF A hA hU hh R K s rl=>?_⟩
  refine K1 Fz hF A hA hU hh R (fun s' r'=>K2 Fz hF A hA hU hh R (fun s'' r''=>K s'' ?_) s' r') s rl
  have e:vs++[.str (nm tk) vt]++fJ ts o2.vts=vs++fJ (tk::ts) (vt::o2.vts):=by
   rw[List.append_assoc];rfl
  rw[e] at r''
  exact r''
end
end
noncomputable def JF (v:Value):Sem Fin:=R.bindR (Fast.tw8711993805878244202 v) fun x=>.pure (.done (.ret x))
noncomputable def KN (v:Value):Sem Fin:=R.bindR (Fast.tw15112759502256325868 v) fun b=>.pure (.done (.ret (.bool b)))
noncomputable abbrev inC (la sa:Nat):Code:=.builtin "list.__init__" ⟨[.ref la,.ref sa],[]⟩
theorem zP P b k1 k3 t1 t3 da sa ba ia p1 p2 sv ln buf pos la Z V:Fb (S8 P b 500 29 0x20700000707000000000000000200000002 (inC la sa) (JF (.ref sa)) (ql da sa ba ia p1 p2 k1 k3 t1 t3 sv ln buf pos) Z V [] (.nil)) 63 (.done (.ret (.ref sa))) (fun _=>ql da sa ba ia p1 p2 k1 k3 t1 t3 sv ln buf pos):=⟨by cases b<;>kernel_rfl⟩
theorem Aa P b k1 k3 t1 t3 da sa ba ia p1 p2 sv ln buf pos la Z V:Fb (S8 P b 500 8 8589934594 (inC la sa) (KN (.ref sa)) (ql da sa ba ia p1 p2 k1 k3 t1 t3 sv ln buf pos) Z V [] (.nil)) 63 (.done (.ret (.bool true))) (fun _=>ql da sa ba ia p1 p2 k1 k3 t1 t3 sv ln buf pos):=⟨by cases b<;>kernel_rfl⟩
section
open Sem (wp)
section
variable {α β:Type} {M:Model} {A:Around} {c:Code} {Q:β→Shared→Prop} {E:Value→Shared→Prop} {s:Shared}
theorem jU {m:Sem α}{f:α→Sem β}(h:wpOwn M A c m (fun a s'=>wpOwn M A c (f a) Q E s') E s):wpOwn M A c (m>>=f) Q E s:=fun Γ p hc hΓ=>by
 rw[Sem.wp_bind']
 exact Sem.wp_mono _ _ _ (fun a p1 s1 h1=>h1 Γ p1 hc hΓ) (fun _ _ _ h1=>h1) p s (h Γ p hc hΓ)
theorem pW {m:Sem β}(h:wpAny M (A.under c) m Q E s):wpOwn M A c m Q E s:=fun Γ p hc hΓ=>h Γ p (hc▸hΓ.in)
theorem wM {m:Sem β}{Q':β→Shared→Prop}(h:wpOwn M A c m Q E s)(hQ:∀a s',Q a s'→Q' a s'):wpOwn M A c m Q' E s:=fun Γ p hc hΓ=>Sem.wp_mono _ _ _ (fun a _ s' x=>hQ a s' x) (fun _ _ _ x=>x) p s (h Γ p hc hΓ)
theorem Bu {vs:List Value}{m:Sem β}(h:wpOwn M A c m Q E s):wpOwn M A c (holding vs m) Q E s:=fun Γ p hc hΓ=>by
 rw[Sem.wp_holding];exact h Γ p hc hΓ
end
section
variable {w:World} {J:Array GenState} {dr:Drawn} {os:Osw} {F:bw} {led led':Led} {Z V:Nat}
theorem De {α:Type}{A:Around}{c:Code}{m:Sem α}{g:α→Flow}{Q:α→Shared→Prop}{E:Value→Shared→Prop}{s:Shared}{R₀:Result→Shared→Prop}(h:wpOwn (model aH w) A c (m.bind fun x=>.pure (.done (g x))) (postC aH w A R₀) (postE R₀) s)(hQ:∀x s',R₀ (.ok (g x)) s'→Q x s')(hE:∀e s',R₀ (.error e) s'→E e s'):wpOwn (model aH w) A c m Q E s:=fun Γ p hc hΓ=>by
 have x:=h Γ p hc hΓ
 have x':wp (model aH w) Γ (m>>=fun x=>(.pure (.done (g x)):Sem Fin)) _ _ p s:=x
 rw[Sem.wp_bind'] at x'
 exact Sem.wp_mono _ _ _ (fun a _ s1 h1=>hQ a s1 h1) (fun e _ s1 h1=>hE e s1 h1) p s x'
theorem Jk (v:Value):JF v=(pyIter v).bind fun x=>.pure (.done (.ret x)):=by
 unfold JF;rw[←R.bindR_eq,←Fast.te8711993805878244202]
theorem Ib (v:Value):KN v=(Builtin.List.listLengthHint v).bind fun b=>.pure (.done (.ret (.bool b))):=by
 unfold KN;rw[←R.bindR_eq,←Fast.te15112759502256325868]
theorem Nj (la sa:Nat):Builtin.«list.__init__» ⟨[.ref la,.ref sa],[]⟩=(Builtin.List.listItems (.ref la)>>=fun old=>Builtin.List.listUpdate (.ref la) (fun _=>#[])>>=fun _=>letGo old.toList.reverse>>=fun _=>Builtin.List.listExtendWith (.ref la) (.ref sa) .none):=by
 unfold Builtin.«list.__init__»
 rfl
theorem QX (la sa:Nat)(hne:la≠sa)(t:Value)(h1:(t == .type "list")=false)(h2:(t == .type "tuple")=false){A:Around}{c:Code}{Q:Fin→Shared→Prop}{E:Value→Shared→Prop}{s:Shared}(ht:wpAny (model aH w) (A.under c) (typeOf (.ref sa)) (fun t' s'=>t'=t∧s'=s) E s)(h:wpOwn (model aH w) A c (pyIter (.ref sa)) (fun it s'=>wpOwn (model aH w) A c (Builtin.List.listLengthHint (.ref sa)) (fun b s''=>b=true∧wpOwn (model aH w) A c (Builtin.List.listTouch (.ref la)) (fun _ s₃=>Q (.again (.builtin "list.extend.loop" ⟨[.ref la,it,.none],[]⟩)) s₃) E s'') E s') E s):
  wpOwn (model aH w) A c (Builtin.List.listExtendWith (.ref la) (.ref sa) .none) Q E s:=by
 unfold Builtin.List.listExtendWith
 refine jU (pW (wpAny_mono ht (fun t' s' x=>?_) fun _ _ x=>x))
 obtain⟨rfl,rfl⟩:=x
 have hs:Builtin.List.listSameRef (.ref la) (.ref sa)=false:=by
  show(la==sa)=false
  simpa using hne
 rw[hs,h1,h2]
 show wpOwn _ A c (pyIter (.ref sa)>>=_) Q E s'
 refine jU (wM h fun it s1 h1=>?_)
 refine jU (Bu (wM h1 fun b s2 h2=>?_))
 obtain⟨rfl,h2⟩:=h2
 show wpOwn _ A c (rule "list.extend.makes-room">>=fun _=>Builtin.List.listTouch (.ref la)>>=fun _=>again _) Q E s2
 refine jU (pW (wpAny_rule ?_))
 refine jU (wM h2 fun _ s3 h3=>?_)
 exact fun _ _ _ _=>h3
theorem V1:plainId "list.__init__"=true:=by decide +kernel
theorem Jc:entryFor table "list.__init__"=some Builtin.«list.__init__»:=entryFor_of_fast (by kernel_rfl)
noncomputable def KZ (ep:Nat)(f:Array Value→Array Value)(vs:Array Value):Nat:=if(f vs).size==vs.size then ep else ep+1
noncomputable def Aj (ep:Nat):Nat:=KZ (KZ (KZ ep (fun _=>#[]) #[]) (·.push .none) #[]) (·.pop) #[.none]
theorem Uk (ep:Nat)(vs:List Value)(f:Array Value→Array Value):(aa ep vs).mapSeq f=aa (KZ ep f ⟨vs⟩) (f ⟨vs⟩).toList:=rfl
theorem Ah {A:Around}{c:Code}{E:Value→Shared→Prop}{s:Shared}{la ep:Nat}{vs:List Value}{f:Array Value→Array Value}{Q:Unit→Shared→Prop}(hv:vs.length≤1000)(hf:(f ⟨vs⟩).size≤1000)(r:Rel F J dr os ((la,aa ep vs)::led) Z V s)(h:∀s',Rel F J dr os ((la,aa (KZ ep f ⟨vs⟩) (f ⟨vs⟩).toList)::led) Z V s'→Q () s'):wpOwn (model aH w) A c (updateSeq la f) Q E s:=by
 have ho:=r.own _ (.head _)
 have hsz:sizeLine=16777216:=rfl
 refine pW (wpAny_updateSeq (f:=f) ho rfl (h _ ?_) (by show vs.length≤sizeLine;lia) (by lia))
 have r3:=r.upd (i:=0) (p:=(la,aa ep vs)) (f:=Obj.mapSeq f) rfl rfl
 exact r3
theorem nu (la da sa ba ia p1 p2 ep:Nat)(k1 k3:Hk)(t1 t3:Tks)(sv:Value)(ln:Int)(l:List Nat)(i:Nat)(Z V:Nat):
  ∃Z' V',∀Fz:bw,(∀b o,KF w.params b o→Fz b o)→∀A:Around,A.depth≤490→A.units≤980→A.handled=none→∀R:Result→Shared→Prop,
   (∀s',Rel Fz J dr os (xf la da sa ba ia p1 p2 (Aj ep) [] k1 k3 t1 t3 sv ln l i) Z' V' s'→codeAny (model aH w) A (yI la sa) R s')→
   ∀s,Rel Fz J dr os (xf la da sa ba ia p1 p2 ep [] k1 k3 t1 t3 sv ln l i) Z V s→codeAny (model aH w) A (inC la sa) R s:=by
 generalize hb:w.params.followText "special-get-raises"=b
 refine aL ((zP w.params b k1 k3 t1 t3 da sa ba ia p1 p2 sv ln (nm l) i la Z V).ex) fun R1 hR1 H1=>?_
 refine aL ((Aa w.params b k1 k3 t1 t3 da sa ba ia p1 p2 sv ln (nm l) i la (dw R1) (bk R1)).ex) fun R2 hR2 H2=>?_
 refine⟨dw R2,bk R2,fun Fz hF A hA hU hh R K s r=>?_⟩
 have hS:=DW w 500 hb
 refine y_code _ _ _ _ _ _ ?_
 rw[vU Jc,Nj]
 have ho:=r.own _ (.head _)
 have hne:la≠sa:=by
  intro e
  have:=(List.nodup_cons.mp r.nd).1
  exact this (List.mem_map.mpr ⟨(sa,aC 809 da),.tail _ (.head _),e.symm⟩)
 refine jU (pW ?_)
 unfold Builtin.List.listItems seqItems?
 refine wpAny_bind (wpAny_bind (wpAny_load ho ?_))
 refine wpAny_pure (wpAny_pure ?_)
 refine jU (Ah (by show 0≤1000;lia) (by show 0≤1000;lia) r fun s1 r1=>?_)
 refine jU (pW (wpAny_letGo ?_))
 have r1':Rel Fz J dr os ((la,aa (KZ ep (fun _=>#[]) #[]) [])::ql da sa ba ia p1 p2 k1 k3 t1 t3 sv ln (nm l) i) Z V s1:=r1
 have hos:=r1'.own (sa,aC 809 da) (.tail _ (.tail _ (.head _)))
 refine QX la sa hne (.ref 809) rfl rfl (wpAny_typeOf_ref hos ⟨rfl,rfl⟩) ?_
 refine De (g:=fun x=>.ret x) (R₀:=fun r s'=>r=.ok (.ret (.ref sa))∧Rel Fz J dr os ((la,aa (KZ ep (fun _=>#[]) #[]) [])::ql da sa ba ia p1 p2 k1 k3 t1 t3 sv ln (nm l) i) (dw R1) (bk R1) s') ?_ (fun x s2 hx=>?_) (fun e s2 hx=>by cases hx.1)
 ·rw[←Jk]
  exact tL (F:=frame Fz [(la,aa (KZ ep (fun _=>#[]) #[]) [])]) hS rfl rfl hR1 H1 (fun a o h=>.inl (hF a o h)) (fun _ h=>(nomatch h)) trivial (by show A.depth≤500;lia) (by show A.units≤2*500;lia) hh (fun s' r'=>⟨rfl,r1'.uncons (r'.anti fun b o h=>.inl (.inl h))⟩) r1'.cons
 obtain⟨e1,r2⟩:=hx
 injection e1 with e1
 injection e1 with e1
 subst e1
 refine De (g:=fun b=>.ret (.bool b)) (R₀:=fun r s'=>r=.ok (.ret (.bool true))∧Rel Fz J dr os ((la,aa (KZ ep (fun _=>#[]) #[]) [])::ql da sa ba ia p1 p2 k1 k3 t1 t3 sv ln (nm l) i) (dw R2) (bk R2) s') ?_ (fun x s3 hx=>?_) (fun e s2 hx=>by cases hx.1)
 ·rw[←Ib]
  exact tL (F:=frame Fz [(la,aa (KZ ep (fun _=>#[]) #[]) [])]) hS rfl rfl hR2 H2 (fun a o h=>.inl (hF a o h)) (fun _ h=>(nomatch h)) trivial (by show A.depth≤500;lia) (by show A.units≤2*500;lia) hh (fun s' r'=>⟨rfl,r2.uncons (r'.anti fun b o h=>.inl (.inl h))⟩) r2.cons
 obtain⟨e2,r3⟩:=hx
 injection e2 with e2
 injection e2 with e2
 injection e2 with e2
 refine⟨e2,?_⟩
 unfold Builtin.List.listTouch
 refine jU (Ah (by show 0≤1000;lia) (by show 1≤1000;lia) r3 fun s4 r4=>?_)
 refine Ah (by show 1≤1000;lia) (by show 0≤1000;lia) r4 fun s5 r5=>?_
 exact⟨plainId_quiet xJ _,K s5 r5⟩
end
end
noncomputable abbrev lK:String:=SL.s5991306692159431302x13
noncomputable def Ay:Str:=nm [115,112,108,105,116,46,60,108,111,99,97,108,115,62,46]
noncomputable def Dd:Str:=nm [95,108,97,119,95,116,111,108,100,46,60,108,111,99,97,108,115,62,46]
noncomputable def Bm:Str:=nm [115,104,108,101,120,46,95,95,110,101,120,116,95,95,46,60,108,111,99,97,108,115,62,46]
noncomputable def We:Str:=nm [108,105,110,101]
noncomputable def nS:Str:=nm [115]
noncomputable def Gv:Str:=nm [99,111,109,109,101,110,116,115]
noncomputable def RV:Str:=nm [112,111,115,105,120]
noncomputable def XR:Str:=nm [108,101,120]
noncomputable def Pz:Str:=nm [116,111,107,101,110]
noncomputable def oU (k:Hk)(t:Tks)(line:Str):Obj:=nZ iD k 1 [(We,.str line (t 0))]
noncomputable def DY (k:Hk)(t:Tks)(line:Str)(sa:Nat):Obj:=nZ iD k 4 [(nS,.str line (t 0)),(Gv,.bool false),(RV,.bool true),(XR,.ref sa)]
noncomputable def UV (k:Hk)(sa:Nat):Obj:=nZ iD k 2 [(Ft,.ref sa),(Pz,.none)]
noncomputable def cN (cls:String)(a tb:Value):Obj:=⟨.type cls,none,.fields ⟨[a,tb,.none,.none,.bool false,.none]⟩,#[]⟩
noncomputable def uH:Value→Nat
 |.ref a=>a
 |_=>0
noncomputable def Ag:An:=fun k=>.cons 0 (fun c _ Z V=>⟨.builtin "list.__new__" ⟨[.type qZ,.ref (uH (MT c 1))],[]⟩,950,[],.ok (.ret (.ref Z)),[],[(Z,aa 0 [])],fun _ _=>False,[],Z+1,V⟩) fun _ _ _ _=>k
noncomputable def Dv (cls:String)(args:List Value):An:=fun k=>.cons 0 (fun _ _ Z V=>⟨.builtin "Exception.__new__" ⟨.type cls::args,[]⟩,950,[],.ok (.ret (.ref (Z+1))),[],[(Z+1,cN cls (.ref Z) .none)],fun _ _=>False,[],Z+2,V⟩) fun _ _ _ _=>k
noncomputable def SJ (jx:Code→Led→Nat→Nat→ExO)(vsF:List Nat→List Value)(buf:Str)(pos2:Int)(st2:LS)(c:Code)(g:Led)(Z V:Nat):Jmp:=
 ⟨inC (az g 6) (az g 1),490,[(az g 0,cD (aP (au g 0)) (aN (au g 0)) (az g 3) (az g 4) (az g 5) (ig .sp (aN (au g 0) 11)) (nm []) 1),(az g 1,aC 809 (az g 0)),(az g 2,bV (aP (au g 2)) (aN (au g 2)) buf 0),(az g 3,aC 674 (az g 2)),(az g 4,lu),(az g 5,lu),(az g 6,aa (jM (au g 6)) [])],
  yI (az g 6) (az g 1),[cD (jx c g Z V).k1 (jx c g Z V).t1 (az g 3) (az g 4) (az g 5) (ig st2 (jx c g Z V).st0) (nm []) (jx c g Z V).ln,aC 809 (az g 0),bV (jx c g Z V).k3 (jx c g Z V).t3 buf pos2,aC 674 (az g 2),lu,lu,aa (jx c g Z V).ep (vsF (jx c g Z V).vts)],
  [],fun _ _=>False,[],(jx c g Z V).Z,(jx c g Z V).V⟩
noncomputable def Ma (m:Nat)(jx:Code→Led→Nat→Nat→ExO)(vsF:List Nat→List Value)(buf:Str)(pos2:Int)(st2:LS):An:=fun k=>.jump m (SJ jx vsF buf pos2 st2) fun _ _ _ _=>k
noncomputable def XH (rt:Code→Led→Nat→Nat→RtO)(buf:Str)(pos pos2:Int)(st st2:LS)(v:Nat→Value)(c:Code)(g:Led)(Z V:Nat):Ans:=
 ⟨.call (.ref 777) ⟨[.ref (az g 1)],[]⟩,560,[(az g 0,cD (aP (au g 0)) (aN (au g 0)) (az g 3) (uH (gV (fM (au g 0)) 12).val) (uH (gV (fM (au g 0)) 16).val) (ig st (CT (gV (fM (au g 0)) 11).val)) (nm []) (Ke (gV (fM (au g 0)) 13).val)),(az g 1,aC 809 (az g 0)),(az g 2,bV (aP (au g 2)) (aN (au g 2)) buf pos),(az g 3,aC 674 (az g 2))],
  .ok (.ret (v (rt c g Z V).vt)),[cD (rt c g Z V).k1 (rt c g Z V).t1 (az g 3) (uH (gV (fM (au g 0)) 12).val) (uH (gV (fM (au g 0)) 16).val) (ig st2 (rt c g Z V).st0) (nm []) (rt c g Z V).ln,aC 809 (az g 0),bV (rt c g Z V).k3 (rt c g Z V).t3 buf pos2,aC 674 (az g 2)],
  [],fun _ _=>False,[],(rt c g Z V).Z,(rt c g Z V).V⟩
noncomputable def Jo (m:Nat)(rt:Code→Led→Nat→Nat→RtO)(buf:Str)(pos pos2:Int)(st st2:LS)(v:Nat→Value):An:=fun k=>.cons m (XH rt buf pos pos2 st st2 v) fun _ _ _ _=>k
noncomputable def qg:Res→Code
 |.ok σ=>σ.code
 |.bad _ _=>.call .none ⟨[],[]⟩
noncomputable def eF:Res→Kn
 |.ok σ=>σ.kont
 |.bad _ _=>.base
noncomputable def zZ:Res→Nat
 |.ok σ=>σ.dep
 |.bad _ _=>0
noncomputable def lg:Kn→Kn
 |.lv _ κ=>κ
 |.ret _ _ _ κ=>κ
 |.base=>.base
noncomputable def uv (P:Params)(fr:Option (List Env))(lim n h:Nat)(c:Code)(κ:Kn)(dep:Nat)(t:Sem Fin)(led:Led)(Z V:Nat)(ro:Led)(ant:Ant):Res:=
 lN (jG aH (ktop P) P lim fr) n h c κ dep t led Z V ro ant (fun _ _=>False) []
noncomputable def Sy (R:Res)(m:Nat):Bool×TV×Led×List Ob:=(K4 R,Cd R,di m (fH R),oE (cH R))
noncomputable def Xg (n:Nat):vQ→Led
 |[]=>[]
 |p::l=>match p.1 with
  |.led g=>match Nat.beq g.length n with
   |true=>g
   |false=>Xg n l
  |_=>Xg n l
noncomputable def Oe (κ:Kn)(h:Value→Sem Unit):Kn:=.lv h (lg κ)
noncomputable def O5 (P:Params)(le:Env)(line:Str)(lt:Nat)(jx:Code→Led→Nat→Nat→ExO)(vsF:List Nat→List Value)(pos2:Int)(rt:Code→Led→Nat→Nat→RtO)(Z V:Nat):Res:=bh P (some [le]) 400 1675 (hc (hc (hc (hc (hc (hc (hc (hc (hc (hc (hc (hc (hc (hc (hc (hc (hc (hc (hc (hc (hc (hc (hc (hc (hc (hc (hc (hc (hc (hc (hc (hc (hc (hc (hc (hc (hc (hc (hc (hc (hc (hc (hc (hc (hc (hc (hc (hc (hc (hc (hc (hc (hc (hc (hc (hc (hc (hc (hc (hc (hc (hc (hc (hc 0x1200000012121212121212121212000012120012120100000000000000 96 pH) 40 0x410101010) 96 pH) 80 0x4110e000e000e000e0e) 96 pH) 32 0x4110000) 96 pH) 32 0x4111100) 96 pH) 240 0x41111110100030400000000040000000400000004110d000d000d000d0d) 96 pH) 400 S5) 8 0) 152 hb1) 16 514) 152 hb1) 56 0x2020200000005) 152 hb1) 40 0x505050505) 152 hb1) 8 5) 152 hb1) 112 0x50e0e0e000e000e0e0000000000) 152 hb1) 8 5) 152 hb1) 8 5) 152 hb1) 8 5) 152 hb1) 112 0x50d0d0d000d000d0d0000000000) 152 hb1) 8 5) 152 hb1) 8 5) 152 hb1) 8 5) 152 hb1) 8 5) 152 hb1) 8 5) 152 hb1) 8 5) 152 hb1) 16 0) 96 pH) 16 1029) 96 pH) 16 1029) 152 hb1) 8 5) 152 hb1) 8 5) 152 hb1) 16 1285) 152 hb1) 16 1285) 152 hb1) 16 1285) 152 hb1) 2080 hb8) 56 0) 1040 TX) 112 0x10000000101000000) (.call (.ref 867) ⟨[.str line lt],[]⟩) [] Z V [] (Ag (Ma 29452 jx vsF line pos2 .fin (Jo 780 rt line pos2 pos2 .fin .fin (fun _=>.none) (Dv lK [] .nil))))
theorem rA (P:Params)(le:Env)(line:Str)(lt:Nat)(jx:Code→Led→Nat→Nat→ExO)(vsF:List Nat→List Value)(pos2:Int)(rt:Code→Led→Nat→Nat→RtO)(Z V:Nat):∃R:Res,O5 P le line lt jx vsF pos2 rt Z V=R∧
  Sy R 180227=(true,.raise (.ref (az (fH R) 17)),[(Z,oU (ak R 0) (aq R 0) line),(Z+1,DY (ak R 1) (aq R 1) line (Z+3)),(Z+14,aa (jM (rObj R 14)) (vsF (jx (inC (Z+14) (Z+3)) (Xg 7 (cH R)) (Z+15) (V+100)).vts)),(az (fH R) 15,UV (ak R 15) (Z+3)),(az (fH R) 17,cN lK (yx (tC (rObj R 17)) 0) .none)],rights (cH R))∧
  qg R=.func (bodyOf (fdOf P 806)) (envOf P 806 (az (fH R) 15) Bm [])∧eF R=Oe (eF R) (leaving (envOf P 806 (az (fH R) 15) Bm []))∧
  Az (jG aH (ktop P) P 400 (some [le])) (eF R)=some [(envOf P 821 (Z+1) Ay []),(envOf P 867 Z Dd []),le]∧zZ R=mD (eF R):=⟨(O5 P le line lt jx vsF pos2 rt Z V),rfl,by kernel_rfl,by kernel_rfl,by kernel_rfl,by kernel_rfl,by kernel_rfl⟩
theorem zU P le line lt (jx:Code→Led→Nat→Nat→ExO) (vsF:List Nat→List Value) pos2 (rt:Code→Led→Nat→Nat→RtO) Z V e ep vs a tb sz2 tok2:Fb (uv P (some [le]) 400 9 2 (qg (O5 P le line lt jx vsF pos2 rt Z V)) (lg (eF (O5 P le line lt jx vsF pos2 rt Z V))) (zZ (O5 P le line lt jx vsF pos2 rt Z V)) (.raise (.ref e)) [(Z+14,aa ep vs),(e,cN lK a (.ref tb))] sz2 tok2 [] .nil) 1 (.done (.ret (.ref (Z+14)))) (fun _=>[(Z+14,aa ep vs)]):=⟨by kernel_rfl⟩
section
open Sem (wp)
inductive SlEq:Led→Led→Prop where
 |nil:SlEq [] []
 |cons (p:Addr×Obj) (sl:Array (Option Value)) {l l':Led} (h:SlEq l l'):SlEq (p::l) ((p.1,{p.2 with slots:=sl})::l')
theorem SlEq.map {l l':Led}(h:SlEq l l'):l'.map (·.1)=l.map (·.1):=by
 induction h with
 |nil=>rfl
 |cons p sl _ ih=>exact congrArg (p.1::·) ih
theorem SlEq.mem {l l':Led}(h:SlEq l l'):∀q∈l',∃p∈l,∃sl,q=(p.1,{p.2 with slots:=sl}):=by
 induction h with
 |nil=>intro q hq;cases hq
 |cons p sl _ ih=>
  intro q hq
  rcases List.mem_cons.mp hq with z|z
  ·exact⟨p,.head _,sl,z⟩
  ·refine aL (ih q z) fun p' hp x=>?_
   exact⟨p',.tail _ hp,x⟩
section
variable {w:World} {J:Array GenState} {dr:Drawn} {os:Osw} {F:bw} {led led' fr:Led} {Z V:Nat}
theorem qF {h h':Heap}(hs:∀b o,h.get? b=some o→∃sl,h'.get? b=some {o with slots:=sl}):∀{l:Led},(∀p∈l,h.get? p.1=some p.2)→∃l',SlEq l l'∧∀p∈l',h'.get? p.1=some p.2
 |[],_=>⟨[],.nil,fun _ hp=>nomatch hp⟩
 |p::l,H=>by
  refine aL (qF hs (l:=l) fun q hq=>H q (.tail _ hq)) fun l' h1 h2=>?_
  obtain⟨sl,e⟩:=hs p.1 p.2 (H p (.head _))
  refine⟨(p.1,{p.2 with slots:=sl})::l',.cons p sl h1,fun q hq=>?_⟩
  rcases List.mem_cons.mp hq with z|z
  ·subst z;exact e
  ·exact h2 q z
theorem Rel.slots {s:Shared}{S:List Addr}{h':Heap}(r:Rel F J dr os (fr++led) Z V s)(hS:∀b∈S,b∈fr.map (·.1)∨b∈os.W.map (·.1))(x:Heap.SlotsOnly S s.heap h'):
  ∃fr',SlEq fr fr'∧Rel F J dr os (fr'++led) Z V {s with heap:=h'}:=by
 refine aL (qF x.2.2 (l:=fr) fun p hp=>r.own p (List.mem_append_left _ hp)) fun fr' h1 h2=>?_
 have hout:∀b,(∀p∈fr,b≠p.1)→(∀p∈os.W,b≠p.1)→h'.get? b=s.heap.get? b:=fun b ha hb=>x.2.1 b fun hm=>by
  rcases hS b hm with z|z
  ·refine aL (List.mem_map.mp z) fun p hp e=>?_
   exact ha p hp e.symm
  ·refine aL (List.mem_map.mp z) fun p hp e=>?_
   exact hb p hp e.symm
 have nd:=r.nd
 rw[List.map_append] at nd
 have nda:=List.nodup_append.mp nd
 refine⟨fr',h1,?_,?_,?_,?_,?_,?_,?_⟩
 ·exact x.1.trans r.size
 ·intro b o hb
  exact(hout b (fun p hp e=>r.apart p (List.mem_append_left _ hp) o (e▸hb)) (fun p hp e=>(r.wf p hp).2.1 o (e▸hb))).trans (r.keep b o hb)
 ·intro p hp
  rcases List.mem_append.mp hp with z|z
  ·exact h2 p z
  ·refine(hout p.1 (fun q hq e=>nda.2.2 q.1 (List.mem_map.mpr ⟨q,hq,rfl⟩) p.1 (List.mem_map.mpr ⟨p,z,rfl⟩) e.symm) (fun q hq e=>(r.wf q hq).2.2 ?_)).trans (r.own p (List.mem_append_right _ z))
   rw[List.map_append]
   exact List.mem_append_right _ (List.mem_map.mpr ⟨p,z,e⟩)
 ·intro p hp o ho
  rcases List.mem_append.mp hp with z|z
  ·obtain⟨q,hq,sl,e⟩:=h1.mem p z
   subst e
   exact r.apart q (List.mem_append_left _ hq) o ho
  ·exact r.apart p (List.mem_append_right _ z) o ho
 ·rw[List.map_append,h1.map,←List.map_append]
  exact r.nd
 ·have e:=r.rest
  rw[e]
 ·intro p hp
  refine aK (r.wf p hp) fun ep4 h3 h4=>?_;obtain⟨sl,e⟩:=ep4
  obtain⟨sl',e'⟩:=x.2.2 _ _ e
  refine⟨⟨sl',e'⟩,h3,?_⟩
  rw[List.map_append,h1.map,←List.map_append]
  exact h4
theorem Rel.drop {s:Shared}{p:Addr×Obj}(r:Rel F J dr os (led++[p]) Z V s):Rel F J dr os led Z V s:=by
 have nd:=r.nd
 rw[List.map_append] at nd
 refine⟨r.size,r.keep,fun q hq=>r.own q (List.mem_append_left _ hq),fun q hq=>r.apart q (List.mem_append_left _ hq),(List.nodup_append.mp nd).1,r.rest,fun q hq=>?_⟩
 refine aK (r.wf q hq) fun h1 h2 h3=>?_
 exact⟨h1,h2,fun hm=>h3 (by rw[List.map_append];exact List.mem_append_left _ hm)⟩
theorem uZ {s:Shared}:∀{es:List Env} {fs:Led},(∀p∈fs,∃sl,s.heap.get? p.1=some {p.2 with slots:=sl}∧∀vs,p.2.data≠.fields vs)→es.map (·.frame)=fs.map (fun p=>some p.1)→(∀e∈es,e.scope.kind≠.module)→s.heap.FunFrames {} es
 |[],_,_,_,_=>trivial
 |e::es,[],_,h,_=>by cases h
 |e::es,p::fs,H,h,hk=>by
  injection h with h1 h2
  refine aL (H p (.head _)) fun sl a b=>?_
  exact⟨hk e (.head _),⟨p.1,_,h1,by show({}:Heap).get? p.1=none;rfl,a,b⟩,uZ (fun q hq=>H q (.tail _ hq)) h2 fun e he=>hk e (.tail _ he)⟩
theorem lB:∀(a:Led) (p:Addr×Obj) (b:Led),tY (a++p::b) a.length=some p
 |[],_,_=>rfl
 |_::a,p,b=>lB a p b
theorem lq (f:Obj→Obj):∀(a:Led) (p:Addr×Obj) (b:Led),Di f (a++p::b) a.length=a++(p.1,f p.2)::b
 |[],_,_=>rfl
 |x::a,p,b=>congrArg (x::·) (lq f a p b)
theorem Rel.reassoc {s:Shared}{a b c:Led}{x:Addr×Obj}(r:Rel F J dr os (a++x::(b++c)) Z V s):Rel F J dr os ((a++x::b)++c) Z V s:=by
 rw[List.append_assoc,List.cons_append]
 exact r
theorem Dc {A:Around}{E:Value→Shared→Prop}{s:Shared}{env le:Env}{es:List Env}{L e:Nat}{fr:Led}{pw:Addr×Obj}{cls:String}{a:Value}{Q:Unit→Shared→Prop}(hfr:A.frames=some (env::es++[le]))(hL:env.frame=some L)(hes:(env::es).map (·.frame)=fr.map (fun p=>some p.1))(hdat:∀p∈fr,∀vs,p.2.data≠.fields vs)(hpw:pw∈os.W)(hle:le.frame=some pw.1)(hpd:∀vs,pw.2.data≠.fields vs)(hk:∀x∈env::es++[le],x.scope.kind≠.module)(r:Rel F J dr os (fr++(e,cN cls a .none)::led) Z V s)(h:∀s' fr',SlEq fr fr'→Rel F J dr os (fr'++(e,cN cls a (.ref Z))::led) (Z+1) V s'→Q () s'):wpAny (model aH w) A (leaving env (.ref e)) Q E s:=by
 have he:=r.own (e,cN cls a .none) (List.mem_append_right _ (.head _))
 unfold leaving noteFrame
 simp only[hL]
 refine wpAny_bind (wpAny_bind (wpAny_field he (x:=.none) rfl rfl ?_))
 rw[if_neg (by decide)]
 have hff:s.heap.FunFrames {} (env::es++[le]):=by
  refine uZ (fs:=fr++[pw]) (fun p hp=>?_) ?_ hk
  ·rcases List.mem_append.mp hp with z|z
   ·exact⟨p.2.slots,r.own p (List.mem_append_left _ z),hdat p z⟩
   ·rw[List.mem_singleton.mp z]
    obtain⟨⟨sl,x⟩,_⟩:=r.wf pw hpw
    exact⟨sl,x,hpd⟩
  ·rw[List.map_append,List.map_append,hes]
   show _++[le.frame]=_++[some pw.1]
   rw[hle]
 refine wpAny_bind (wpAny_frameOf_fun hfr hff hL fun h1 hs1=>?_)
 obtain⟨fr',hsl,r1⟩:=r.slots (S:=(env::es++[le]).filterMap (·.frame)) (fun b hb=>by
  refine aL (List.mem_filterMap.mp hb) fun x hx hxe=>?_
  rcases List.mem_append.mp hx with z|z
  ·left
   have:some b∈(env::es).map (·.frame):=List.mem_map.mpr ⟨x,z,hxe⟩
   rw[hes] at this
   refine aL (List.mem_map.mp this) fun p hp e2=>?_
   injection e2 with e2
   exact List.mem_map.mpr ⟨p,hp,e2⟩
  ·right
   rw[List.mem_singleton.mp z,hle] at hxe
   injection hxe with hxe
   exact List.mem_map.mpr ⟨pw,hpw,hxe⟩) hs1
 refine wpAny_bind (wpAny_entryPlaceOf fun pl hpl=>?_)
 unfold EntryCells.newEntry newFields
 refine wpAny_bind (wpAny_newObj_type ?_ (hpl.sizeOk5 _ _ _ _ _))
 have r2:=r1.push (o:={cls:=.type "traceback",dict:=none,data:=.fields ([Value.none,.ref L,.none,rawInt L,.none]++(if pl.isEmpty then List.replicate 6 Value.none else pl)).toArray}) rfl
 generalize hts:([Value.none,.ref L,.none,rawInt L,.none]++(if pl.isEmpty then List.replicate 6 Value.none else pl)).toArray=ts at r2
 have htsz:4<ts.size:=by
  rw[←hts]
  simp only[List.size_toArray,List.length_append,List.length_cons,List.length_nil]
  lia
 have hsz1:(⟨h1,s.gens,s.drawn,s.toks,s.os⟩:Shared).heap.objs.size=Z:=r1.size
 have he2:=r2.own (e,cN cls a .none) (List.mem_append_left _ (List.mem_append_right _ (.head _)))
 refine wpAny_setField he2 (vs:=⟨[a,.none,.none,.none,.bool false,.none]⟩) rfl (show 1<6 by lia) ?_
 have r3:=r2.upd (i:=fr'.length) (p:=(e,cN cls a .none)) (f:=Obj.mapFields (·.setIfInBounds 1 (.ref h1.objs.size))) (by rw[List.append_assoc];exact lB fr' _ _) rfl
 rw[List.append_assoc,List.cons_append,lq] at r3
 have ee:Obj.mapFields (·.setIfInBounds 1 (.ref h1.objs.size)) (cN cls a .none)=cN cls a (.ref Z):=by
  have:h1.objs.size=Z:=hsz1
  rw[this];rfl
 rw[show((e,cN cls a .none):Addr×Obj).2=cN cls a .none from rfl,ee] at r3
 unfold setFlight
 have he3:=r3.own (e,cN cls a (.ref Z)) (List.mem_append_right _ (.head _))
 refine wpAny_bind (wpAny_field he3 (x:=.ref Z) rfl rfl ?_)
 rw[if_pos (show(Value.ref Z != Value.none)=true from by simp)]
 have ht3:=r3.own (Z,{cls:=.type "traceback",dict:=none,data:=.fields ts}) (List.mem_append_right _ (.tail _ (List.mem_append_right _ (.head _))))
 refine wpAny_setField ht3 rfl (by lia) ?_
 have r3':=r3.reassoc
 have r4:=r3'.upd (i:=(fr'++(e,cN cls a (.ref Z))::led).length) (p:=(Z,{cls:=.type "traceback",dict:=none,data:=.fields ts})) (f:=Obj.mapFields (·.setIfInBounds 3 ((none:Option Addr).elim Value.none fun f=>rawInt f)))
  (lB (fr'++(e,cN cls a (.ref Z))::led) (Z,{cls:=.type "traceback",dict:=none,data:=.fields ts}) []) rfl
 rw[lq] at r4
 exact h _ fr' hsl r4.drop
end
end
section
open Sem (wp)
theorem O7:lK = "StopIteration":=SL.e5991306692159431302x13.symm
section
variable {w:World} {J:Array GenState} {dr:Drawn} {os:Osw} {F:bw} {k:Ant}
theorem Jr (a:Value){A:Around}{R:Result→Shared→Prop}{s:Shared}(h:R (.ok (.ret (.ref s.heap.objs.size))) {s with heap:=s.heap.push {cls:=.type "list",data:=.seq #[]}}):
  codeAny (model aH w) A (.builtin "list.__new__" ⟨[.type "list",a],[]⟩) R s:=by
 refine codeAny_builtin_stack F.entry_list_new rfl fun p st=>?_
 rw[Around.under_plainId F.plain_list_new _]
 have hsub:=sub_list_self
 have hown:=owner_list_new
 obtain⟨hp,g,d,tk,os⟩:=s
 simp only[hown]
 wp_walk
 exact h
theorem Ep (hk:aA aH w J dr os F k):aA aH w J dr os F (Ag k):=by
 refine aV (fun _ _ _ _=>rfl) (fun c l Z V=>⟨fun _ _ h=>h.elim,fun _ h=>(nomatch h),fun Fz _ A _ _ _ s r=>?_⟩) hk
 show codeAny _ A (.builtin "list.__new__" ⟨[.type qZ,.ref (uH (MT c 1))],[]⟩) (fun r' s'=>r'=.ok (.ret (.ref Z))∧Rel (aj Fz (fun _ _=>False)) J dr os [(Z,aa 0 [])] (Z+1) V s') s
 rw[bJ,Cq]
 refine Jr _ ⟨by rw[r.size],?_⟩
 have r2:=r.push (o:=aa 0 []) rfl
 have e:aa 0 []={cls:=.type "list",data:=.seq #[]}:=by
  unfold aa
  rw[Cq]
 rw[e] at r2
 rw[e]
 exact r2
theorem Gq {cls owner newId:String}(hends:newId.endsWith ".__new__"=true)(howner:newId.dropRight 8=owner)(hentry:entryFor table newId=some Builtin.«BaseException.__new__»)(hsub:isSubtype (.type cls) (.type owner)=pure true)(hna:isSubtype (.type cls) (.type "AttributeError")=pure false)(hnn:isSubtype (.type cls) (.type "NameError")=pure false)(hmade:Bind.madeHere "BaseException.__new__" (.type cls)=pure ()){A:Around}{R:Result→Shared→Prop}{rest:List Value}{hp:Heap}{g:Array GenState}{d:Drawn}{tk:Nat}{os:OsState}(h:R (.ok (.ret (.ref (hp.objs.size+1)))) ⟨(hp.push {cls:=.type "tuple",data:=.seq rest.toArray}).push {cls:=.type cls,data:=.fields #[.ref hp.objs.size,.none,.none,.none,.bool false,.none]},g,d,tk,os⟩)(hrest:rest.length≤sizeLine):codeAny (model aH w) A (.builtin newId ⟨.type cls::rest,[]⟩) R ⟨hp,g,d,tk,os⟩:=by
 refine codeAny_builtinAt hentry ?_
 unfold Builtin.«BaseException.__new__»
 refine wpAt_bind ?_
 show wpAt _ _ _ (stack>>=_) _ _ _
 refine wpAt_bind (wpAt_stack fun p below=>wpAt_of_wpAny ?_)
 wp_walk
 refine wpAt_of_wpAny ?_
 rw[howner]
 wp_walk
 show R _ _
 rw[Heap.size_push]
 exact h
end
end
section
open Sem (wp)
section
variable {w:World} {J:Array GenState} {dr:Drawn} {os:Osw} {F:bw} {k:Ant}
theorem Ai (hk:aA aH w J dr os F k):aA aH w J dr os F (Dv lK [] k):=by
 refine aV (fun _ _ _ _=>rfl) (fun c l Z V=>⟨fun _ _ h=>h.elim,fun _ h=>(nomatch h),fun Fz _ A _ _ _ s r=>?_⟩) hk
 show codeAny _ A (.builtin "Exception.__new__" ⟨[.type lK],[]⟩) (fun r' s'=>r'=.ok (.ret (.ref (Z+1)))∧Rel (aj Fz (fun _ _=>False)) J dr os [(Z+1,cN lK (.ref Z) .none)] (Z+2) V s') s
 rw[bJ,O7]
 have hs:=r.size
 have r2:=(r.push (o:={cls:=.type "tuple",data:=.seq ([]:List Value).toArray}) rfl).push (o:={cls:=.type "StopIteration",data:=.fields #[.ref Z,.none,.none,.none,.bool false,.none]}) rfl
 obtain⟨hp,g,d,tk,os'⟩:=s
 refine Gq (owner := "Exception") PySem.F.excCall_Exception.ends PySem.F.excCall_Exception.owner PySem.F.excCall_Exception.entry (by rw[isSubtype_type];kernel_rfl) (by rw[isSubtype_type];kernel_rfl) (by rw[isSubtype_type];kernel_rfl) (by kernel_rfl) ⟨?_,?_⟩ (Nat.zero_le _)
 ·have:hp.objs.size=Z:=hs
  rw[this]
 ·have e:hp.objs.size=Z:=hs
  rw[e]
  have r3:=Rel.cons (p:=(Z,{cls:=.type "tuple",data:=.seq ([]:List Value).toArray})) (led:=[(Z+1,{cls:=.type "StopIteration",data:=.fields #[.ref Z,.none,.none,.none,.bool false,.none]})]) r2
  exact r3.anti fun b o h=>.inl h
theorem Gk {α:Type}(a b c d e f g:α):[b,c,d,e,f,g,a].Perm [a,b,c,d,e,f,g]:=(List.perm_append_comm (l₁:=[b,c,d,e,f,g]) (l₂:=[a]))
theorem Gl (l:List Nat)(hl:l.length≤50000)(hesc:∀c∈l,c≠92)(ts:List (List Nat))(ht:Toks .sp l ts .fin [])(hts:ts.length≤50000):
  ∃jx:Code→Led→Nat→Nat→ExO,(∀c g Z V,(jx c g Z V).vts.length=ts.length)∧∀c g Z V,vO aH w J dr os (KF w.params) (SJ jx (fJ ts) (nm l) (l.length:Nat) .fin c g Z V) Z V:=by
 have key:∀(c:Code) (g:Led) (Z V:Nat),∃o:ExO,o.vts.length=ts.length∧vO aH w J dr os (KF w.params) (SJ (fun _ _ _ _=>o) (fJ ts) (nm l) (l.length:Nat) .fin c g Z V) Z V:=by
  intro c g Z V
  refine aJ (nu (w:=w) (J:=J) (dr:=dr) (os:=os) (az g 6) (az g 0) (az g 1) (az g 2) (az g 3) (az g 4) (az g 5) (jM (au g 6)) (aP (au g 0)) (aP (au g 2)) (aN (au g 0)) (aN (au g 2)) (ig .sp (aN (au g 0) 11)) 1 l 0 Z V) fun sz1 tok1 K1=>?_
  refine aL (m5 (w:=w) (J:=J) (dr:=dr) (os:=os) l hl hesc (az g 6) (az g 0) (az g 1) (az g 2) (az g 3) (az g 4) (az g 5) ht 0 rfl (Nat.zero_le _) (.inl rfl) (Aj (jM (au g 6))) [] (by show 0+ts.length≤_;lia) (aP (au g 0)) (aP (au g 2)) (aN (au g 0)) (aN (au g 2)) (aN (au g 0) 11) 1 sz1 tok1) fun o ho K2=>?_
  refine⟨o,ho,fun _ _ h=>h.elim,fun _ h=>(nomatch h),fun Fz hF A hA hU hh R K s r=>?_⟩
  refine K1 Fz hF A hA hU hh R (fun s' r'=>K2 Fz hF A hA hU hh R (fun s'' r''=>K s'' ?_) s' r') s (r.perm (Gk _ _ _ _ _ _ _))
  show Rel (aj Fz (fun _ _=>False)) J dr os _ o.Z o.V s''
  rw[bJ]
  exact r''.perm (Gk _ _ _ _ _ _ _).symm
 exact⟨fun c g Z V=>(key c g Z V).choose,fun c g Z V=>(key c g Z V).choose_spec.1,fun c g Z V=>(key c g Z V).choose_spec.2⟩
theorem Ow {m:Nat}{jx:Code→Led→Nat→Nat→ExO}{vsF:List Nat→List Value}{buf:Str}{pos2:Int}{st2:LS}(hF:∀b o,KF w.params b o→F b o)(h:∀c g Z V,vO aH w J dr os (KF w.params) (SJ jx vsF buf pos2 st2 c g Z V) Z V)(hk:aA aH w J dr os F k):aA aH w J dr os F (Ma m jx vsF buf pos2 st2 k):=fun c l Z V=>by
 refine⟨?_,?_⟩
 ·refine aK (h c l Z V) fun h1 h2 h3=>?_
  exact⟨h1,h2,fun Fz hz=>h3 Fz fun b o x=>hz b o (hF b o x)⟩
 ·show aA aH w J dr os (aj F fun _ _=>False) k
  rw[bJ]
  exact hk
theorem Q7 (l:List Nat)(hl:l.length≤50000):∃rt:Code→Led→Nat→Nat→RtO,∀c g Z V,bu aH w J dr os (KF w.params) (XH rt (nm l) (l.length:Nat) (l.length:Nat) .fin .fin (fun _=>.none) c g Z V) Z V:=by
 have hd:l.drop l.length=[]:=List.drop_length
 have:=fun(c:Code) (g:Led) (Z V:Nat)=>Ka (w:=w) (J:=J) (dr:=dr) (os:=os) l hl l.length (Nat.le_refl _) (by rw[hd];intro c hc;cases hc) .fin (.inr ⟨rfl,hd⟩) ([],false,.fin,[]) (by rw[hd];rfl) (az g 0) (az g 1) (az g 2) (az g 3)
  (uH (gV (fM (au g 0)) 12).val) (uH (gV (fM (au g 0)) 16).val) (aP (au g 0)) (aP (au g 2)) (aN (au g 0)) (aN (au g 2)) (CT (gV (fM (au g 0)) 11).val) (Ke (gV (fM (au g 0)) 13).val) Z V
 exact⟨fun c g Z V=>(this c g Z V).choose,fun c g Z V=>(this c g Z V).choose_spec⟩
theorem Ri {m:Nat}{rt:Code→Led→Nat→Nat→RtO}{buf:Str}{pos pos2:Int}{st st2:LS}{v:Nat→Value}(hF:∀b o,KF w.params b o→F b o)(h:∀c g Z V,bu aH w J dr os (KF w.params) (XH rt buf pos pos2 st st2 v c g Z V) Z V)(hk:aA aH w J dr os F k):aA aH w J dr os F (Jo m rt buf pos pos2 st st2 v k):=
 aV (fun _ _ _ _=>rfl) (fun c g Z V=>(h c g Z V).mono hF) hk
end
end
section
open Sem (wp)
section
variable {w:World} {J:Array GenState} {dr:Drawn} {os:Osw} {F:bw} {led led':Led} {Z V:Nat}
theorem rO {fr:Option (List Env)}{lim n h:Nat}{c:Code}{κ:Kn}{dep:Nat}{t:Sem Fin}{ro:Led}{ant:Ant}{m:Nat}{f:Flow}{R:Res}(hR:uv w.params fr lim n h c κ dep t led Z V ro ant=R)(hd:dep=mD κ)(H:vw R m=(true,true,.done f,led',rights (cH R)))(hkt:∀a o,(ktop w.params).get a=some o→F a o)(hro:∀p∈ro,F p.1 p.2)(hant:aA aH w J dr os F ant){A:Around}(hA:A.depth≤lim)(hU:A.units≤2*lim)(hh:A.handled=none)(hfr:∀l,fr=some l→A.frames=some l){R₀:Result→Shared→Prop}(K:∀s',Rel (frame (aj F (rF R)) (iQ m (fH R))) J dr os led' (dw R) (bk R) s'→R₀ (.ok f) s'){s:Shared}(r:Rel F J dr os led Z V s):
  d9 aH w A R₀ c κ t s:=by
 refine dm (bT H) fun h1 h2 h3 h4 h5=>?_
 cases R with
 |bad _ _=>cases h1
 |ok σ=>
  refine uJ (oY aH w (ktop w.params) lim fr) ⟨hA,hU,hh,hfr⟩ ⟨hd,hant,hro,hkt⟩ hR (zc h5) (fun s' r'=>?_) r
  rw[sZ h3,rJ h2]
  have r2:=r'.small m
  have h4':di m σ.led=led':=h4
  rw[h4'] at r2
  exact fun _ _ _ _=>K s' r2
theorem Rel.front {s:Shared}{a b:Led}(r:Rel F J dr os (a++b) Z V s):Rel F J dr os a Z V s:=by
 have nd:=r.nd
 rw[List.map_append] at nd
 refine⟨r.size,r.keep,fun q hq=>r.own q (List.mem_append_left _ hq),fun q hq=>r.apart q (List.mem_append_left _ hq),(List.nodup_append.mp nd).1,r.rest,fun q hq=>?_⟩
 refine aK (r.wf q hq) fun h1 h2 h3=>?_
 exact⟨h1,h2,fun hm=>h3 (by rw[List.map_append];exact List.mem_append_left _ hm)⟩
theorem M4 {α:Type}(a b c d e:α):[a,b,c,d,e].Perm ([d,b,a]++e::[c]):=by
 have:[a,b,c,d,e].Perm [d,b,a,e,c]:=by
  refine(List.Perm.cons a (List.Perm.cons b (List.Perm.swap d c [e]))).trans ?_
  refine(List.Perm.cons a (List.Perm.swap d b [c,e])).trans ?_
  refine(List.Perm.swap d a [b,c,e]).trans ?_
  refine List.Perm.cons d ((List.Perm.swap b a [c,e]).trans (List.Perm.cons b (List.Perm.cons a (List.Perm.swap e c []))))
 exact this
theorem cW (l:List Nat)(hl:l.length≤50000)(hesc:∀c∈l,c≠92)(ts:List (List Nat))(ht:Toks .sp l ts .fin [])(hts:ts.length≤50000)(le:Env)(pw:Addr×Obj)(hpw:pw∈os.W)(hle:le.frame=some pw.1)(hpd:∀vs,pw.2.data≠.fields vs)(hlk:le.scope.kind≠.module)(lt Z V:Nat):∃(ep:Nat) (vts:List Nat) (Z' V':Nat),vts.length=ts.length∧∀Fz:bw,(∀b o,KF w.params b o→Fz b o)→
   Oc aH w J dr os [le] 400 (.call (.ref 867) ⟨[.str (nm l) lt],[]⟩) Fz [] Z V (.ok (.ret (.ref (Z+14)))) Fz [(Z+14,aa ep (fJ ts vts))] Z' V':=by
 refine Classical.byContradiction fun hNN=>?_
 refine aL (Gl (w:=w) (J:=J) (dr:=dr) (os:=os) l hl hesc ts ht hts) fun jx hjl hjx=>?_
 obtain⟨rt,hrt⟩:=Q7 (w:=w) (J:=J) (dr:=dr) (os:=os) l hl
 refine jf (rA w.params le (nm l) lt jx (fJ ts) (l.length:Nat) rt Z V) fun R hR H hc hk hf hdp=>?_
 generalize hvt:(jx (inC (Z+14) (Z+3)) (Xg 7 (cH R)) (Z+15) (V+100)).vts=vts at H
 have hvl:vts.length=ts.length:=by rw[←hvt];exact hjl _ _ _ _
 generalize hN:envOf w.params 806 (az (fH R) 15) Bm []=envN at hc hk
 generalize hS:envOf w.params 821 (Z+1) Ay []=envS at hf
 generalize hT:envOf w.params 867 Z Dd []=iM at hf
 have hNf:envN.frame=some (az (fH R) 15):=by rw[←hN];rfl
 have hSf:envS.frame=some (Z+1):=by rw[←hS];rfl
 have hTf:iM.frame=some Z:=by rw[←hT];rfl
 have hNk:envN.scope.kind≠.module:=by
  rw[←hN]
  show(fdOf w.params 806).scope.kind≠.module
  have:(fdOf w.params 806).scope.kind=.function:=by kernel_rfl
  rw[this];decide
 have hSk:envS.scope.kind≠.module:=by
  rw[←hS]
  show(fdOf w.params 821).scope.kind≠.module
  have:(fdOf w.params 821).scope.kind=.function:=by kernel_rfl
  rw[this];decide
 have hTk:iM.scope.kind≠.module:=by
  rw[←hT]
  show(fdOf w.params 867).scope.kind≠.module
  have:(fdOf w.params 867).scope.kind=.function:=by kernel_rfl
  rw[this];decide
 refine aL ((zU w.params le (nm l) lt jx (fJ ts) (l.length:Nat) rt Z V (az (fH R) 17) (jM (rObj R 14)) (fJ ts vts) (yx (tC (rObj R 17)) 0) (dw R) (dw R+1) (bk R)).ex) fun R2 hR2 H2=>?_
 refine hNN ⟨jM (rObj R 14),vts,dw R2,bk R2,hvl,fun Fz hF A hA hU hh hfrA s r=>?_⟩
 have hR':bh w.params (some [le]) 400 _ _ (.call (.ref 867) ⟨[.str (nm l) lt],[]⟩) [] Z V [] _=R:=hR
 have hR2':uv w.params (some [le]) 400 9 2 (qg (O5 w.params le (nm l) lt jx (fJ ts) (l.length:Nat) rt Z V)) (lg (eF (O5 w.params le (nm l) lt jx (fJ ts) (l.length:Nat) rt Z V))) (zZ (O5 w.params le (nm l) lt jx (fJ ts) (l.length:Nat) rt Z V)) _ _ _ _ _ _=R2:=hR2
 rw[hR] at hR2'
 have hfr0:∀l',some [le]=some l'→A.frames=some l':=fun l' e=>by injection e with e;subst e;exact hfrA
 unfold Sy at H
 simp only[Prod.mk.injEq] at H
 refine cg H fun h1 h3 h4 h5=>?_
 cases R with
 |bad _ _=>cases h1
 |ok σ=>
  have hant:aA aH w J dr os Fz (Ag (Ma 29452 jx (fJ ts) (nm l) (l.length:Nat) .fin (Jo 780 rt (nm l) (l.length:Nat) (l.length:Nat) .fin .fin (fun _=>.none) (Dv lK [] .nil)))):=Ep (Ow hF hjx (Ri hF hrt (Ai trivial)))
  have hro:∀p∈([]:Led),Fz p.1 p.2:=fun _ h=>(nomatch h)
  refine lU (F:=Fz) hF hro hant hR' h5 hA hU hh hfr0 (fun s' r'=>?_) r
  have h3':σ.tree=.raise (.ref (az σ.led 17)):=vP h3
  have hk':σ.kont=.lv (leaving envN) (lg σ.kont):=hk
  have hc':σ.code=.func (bodyOf (fdOf w.params 806)) envN:=hc
  have r2:=r'.small 180227
  have h4':di 180227 σ.led=_:=h4
  rw[h4'] at r2
  have r3:=r2.perm (M4 _ _ _ _ _)
  rw[h3',hk']
  have hR2b:uv w.params (some [le]) 400 9 2 σ.code (lg σ.kont) σ.dep _ _ _ _ _ _=R2:=hR2'
  generalize hκ:lg σ.kont=κ' at hk' hR2b
  have hdep:σ.dep=mD κ':=by
   have:σ.dep=mD σ.kont:=hdp
   rw[this,hk'];rfl
  have hfrK:Az (jG aH (ktop w.params) w.params 400 (some [le])) κ'=some [envS,iM,le]:=by
   have:Az (jG aH (ktop w.params) w.params 400 (some [le])) σ.kont=some [envS,iM,le]:=hf
   rw[hk'] at this
   exact this
  have hfrA':(lG A κ').frames=some [envS,iM,le]:=jX (g:=jG aH (ktop w.params) w.params 400 (some [le])) hfr0 κ' _ hfrK
  have hunder:((lG A κ').under σ.code).frames=some (envN::[envS,iM]++[le]):=by
   show pushEnvs σ.code.envs (lG A κ').frames=_
   rw[hfrA',hc']
   rfl
  intro Γ p hcd hΓ
  refine pW (Dc (es:=[envS,iM]) hunder hNf ?_ ?_ hpw hle hpd ?_ r3 fun s'' fr' hsl r''=>?_)
  ·show [envN.frame,envS.frame,iM.frame]=_
   rw[hNf,hSf,hTf];rfl
  ·intro q hq vs
   simp only[List.mem_cons,List.not_mem_nil,or_false] at hq
   rcases hq with rfl|rfl|rfl<;>exact fun e=>nomatch e
  ·intro x hx
   simp only[List.cons_append,List.nil_append,List.mem_cons,List.not_mem_nil,or_false] at hx
   rcases hx with rfl|rfl|rfl|rfl
   ·exact hNk
   ·exact hSk
   ·exact hTk
   ·exact hlk
  ·have r4:=(r''.perm (led':=[(Z+14,aa (jM (rObj (.ok σ) 14)) (fJ ts vts)),(az σ.led 17,cN lK (yx (tC (rObj (.ok σ) 17)) 0) (.ref σ.Z))]++fr') (by
    refine List.perm_append_comm.trans (List.Perm.append_right fr' ?_)
    exact List.Perm.swap _ _ [])).front
   have hm:=rO (A:=A) (R₀:=fun r' s'=>r'=.ok (.ret (.ref (Z+14)))∧Rel Fz J dr os [(Z+14,aa (jM (rObj (.ok σ) 14)) (fJ ts vts))] (dw R2) (bk R2) s') hR2b hdep H2 (fun a o h=>.inl (.inl (hF a o h))) (fun _ h=>(nomatch h)) trivial hA hU hh hfr0 (fun s3 r5=>⟨rfl,r5.anti fun b o h=>.inl (.inl (.inl (.inl h)))⟩) r4
   exact hm Γ p hcd hΓ
end
end
section
open Builtin
noncomputable def cz (l:Addr)(i:Nat):Obj:=⟨.type vf,none,.fields ⟨[.ref l,.int i 0]⟩,#[]⟩
section
variable {w:World} {J:Array GenState} {dr:Drawn} {os:Osw} {F:bw} {k:Ant} {Z V:Nat}
theorem xT {it l:Addr}{i ep:Nat}{vs:List Value}{x:Value}{A:Around}{R:Result→Shared→Prop}{s:Shared}(ho:s.heap.get? it=some (cz l i))(hl:s.heap.get? l=some (aa ep vs))(hx:vs[i]?=some x)(h:R (.ok (.ret x)) {s with heap:=s.heap.update it (Obj.mapFields fun y=>y.setIfInBounds 1 (rawInt (i+1)))}):
  codeAny (model aH w) A (.builtin "list_iterator.__next__" ⟨[.ref it],[]⟩) R s:=by
 refine fC (b:=«list_iterator.__next__») (entryFor_of_fast (by kernel_rfl)) (by decide +kernel) ?_
 have hd:(cz l i).data=.fields #[.ref l,.int i 0]:=rfl
 have hdl:(aa ep vs).data=.seq ⟨vs⟩ ep:=rfl
 show wpAny _ _ (field (.ref it) 0>>=_) _ _ s
 refine wpAny_bind (wpAny_field ho hd (x:=.ref l) rfl ?_)
 show wpAny _ _ (if(Value.ref l==Value.none)=true then _ else _) _ _ s
 rw[if_neg (show ¬((Value.ref l==Value.none)=true) from Bool.false_ne_true)]
 show wpAny _ _ (field (.ref it) 1>>=_) _ _ s
 refine wpAny_bind (wpAny_field ho hd (x:=.int i 0) rfl ?_)
 show wpAny _ _ (seqItems? (.ref l)>>=_) _ _ s
 refine wpAny_bind (wpAny_seqItems hl hdl ?_)
 have hx':(⟨vs⟩:Array Value)[i]?=some x:=by simpa using hx
 simp only[Int.toNat_natCast,hx']
 exact wpAny_bind (wpAny_setField ho hd (by simp) (wpAny_pure ⟨x,rfl,h⟩))
noncomputable def jo (i:Nat):Obj:=⟨.type vf,none,.fields ⟨[.none,.int i 0]⟩,#[]⟩
theorem wZ {it l:Addr}{i ep:Nat}{vs:List Value}{A:Around}{R:Result→Shared→Prop}{s:Shared}(hh:A.handled=none)(ho:s.heap.get? it=some (cz l i))(hl:s.heap.get? l=some (aa ep vs))(hx:vs[i]?=none)(h:R (.error (.ref (s.heap.objs.size+1))) {s with heap:=((s.heap.update it (Obj.mapFields fun y=>y.setIfInBounds 0 .none)).push {cls:=.type "tuple",data:=.seq #[]}).push {cls:=.type "StopIteration",data:=.fields #[.ref s.heap.objs.size,.none,.none,.none,.bool false,.none]}}):
  codeAny (model aH w) A (.builtin "list_iterator.__next__" ⟨[.ref it],[]⟩) R s:=by
 refine fC (b:=«list_iterator.__next__») (entryFor_of_fast (by kernel_rfl)) (by decide +kernel) ?_
 have hd:(cz l i).data=.fields #[.ref l,.int i 0]:=rfl
 have hdl:(aa ep vs).data=.seq ⟨vs⟩ ep:=rfl
 show wpAny _ _ (field (.ref it) 0>>=_) _ _ s
 refine wpAny_bind (wpAny_field ho hd (x:=.ref l) rfl ?_)
 show wpAny _ _ (if(Value.ref l==Value.none)=true then _ else _) _ _ s
 rw[if_neg (show ¬((Value.ref l==Value.none)=true) from Bool.false_ne_true)]
 show wpAny _ _ (field (.ref it) 1>>=_) _ _ s
 refine wpAny_bind (wpAny_field ho hd (x:=.int i 0) rfl ?_)
 show wpAny _ _ (seqItems? (.ref l)>>=_) _ _ s
 refine wpAny_bind (wpAny_seqItems hl hdl ?_)
 have hx':(⟨vs⟩:Array Value)[i]?=none:=by simpa using hx
 simp only[Int.toNat_natCast,hx']
 refine wpAny_bind (wpAny_rule (wpAny_bind (wpAny_setField ho hd (by simp) ?_)))
 show wpAny _ _ (newExc (.type "StopIteration") []>>=_) _ _ _
 refine wpAny_bind ?_
 simp only[newExc,newTuple]
 refine wpAny_bind (wpAny_newObj_type ?_ (by size_fits))
 refine wpAny_bind (m:=firstArgMember _ _) (wpAny_of_eq (a:=Value.none) (by first|rfl|(simp only[firstArgMember];rfl)) ?_)
 refine wpAny_newObj_type ?_ (by size_fits)
 simp only[raiseNew]
 refine wpAny_bind (wpAny_handled ?_)
 rw[show A.in1.handled=none from hh]
 refine wpAny_bind (wpAny_pure (wpAny_throw ?_))
 have e1:(s.heap.update it (Obj.mapFields fun y=>y.setIfInBounds 0 .none)).objs.size=s.heap.objs.size:=(Heap.SameBut.update ..).1
 simp only[Heap.size_push,e1]
 exact h
noncomputable def XJ (it l i:Nat)(x:Value)(Z V:Nat):Ans:=⟨.builtin "list_iterator.__next__" ⟨[.ref it],[]⟩,950,[(it,cz l i)],.ok (.ret x),[cz l (i+1)],[],fun _ _=>False,[],Z,V⟩
theorem U8 (l:Addr)(i:Nat):(cz l i).mapFields (fun y=>y.setIfInBounds 1 (rawInt (i+1)))=cz l (i+1):=rfl
theorem Xk (l:Addr)(i:Nat):(cz l i).mapFields (fun y=>y.setIfInBounds 0 .none)=jo i:=rfl
theorem Ek {it l i ep:Nat}{vs:List Value}{x:Value}(hl:F l (aa ep vs))(hx:vs[i]?=some x):bu aH w J dr os F (XJ it l i x Z V) Z V:=by
 refine⟨fun _ _ h=>h.elim,fun _ h=>(nomatch h),fun Fz hF A _ _ _ s r=>?_⟩
 show codeAny _ A (.builtin "list_iterator.__next__" ⟨[.ref it],[]⟩) (fun r' s'=>r'=.ok (.ret x)∧Rel (aj Fz (fun _ _=>False)) J dr os [(it,cz l (i+1))] Z V s') s
 rw[bJ]
 refine xT (r.own _ (.head _)) (r.keep _ _ (hF _ _ hl)) hx ⟨rfl,?_⟩
 have:=r.upd (i:=0) (p:=(it,cz l i)) (f:=Obj.mapFields fun y=>y.setIfInBounds 1 (rawInt (i+1))) rfl rfl
 exact this
noncomputable def Zq (it l i ep:Nat)(vs:List Value)(x:Value)(Z V:Nat):Ans:=⟨.builtin "list_iterator.__next__" ⟨[.ref it],[]⟩,950,[(l,aa ep vs),(it,cz l i)],.ok (.ret x),[aa ep vs,cz l (i+1)],[],fun _ _=>False,[],Z,V⟩
theorem Xd {it l i ep:Nat}{vs:List Value}{x:Value}(hx:vs[i]?=some x):bu aH w J dr os F (Zq it l i ep vs x Z V) Z V:=by
 refine⟨fun _ _ h=>h.elim,fun _ h=>(nomatch h),fun Fz hF A _ _ _ s r=>?_⟩
 show codeAny _ A (.builtin "list_iterator.__next__" ⟨[.ref it],[]⟩) (fun r' s'=>r'=.ok (.ret x)∧Rel (aj Fz (fun _ _=>False)) J dr os [(l,aa ep vs),(it,cz l (i+1))] Z V s') s
 rw[bJ]
 refine xT (r.own _ (.tail _ (.head _))) (r.own _ (.head _)) hx ⟨rfl,?_⟩
 have:=r.upd (i:=1) (p:=(it,cz l i)) (f:=Obj.mapFields fun y=>y.setIfInBounds 1 (rawInt (i+1))) rfl rfl
 exact this
theorem xr {Fz:bw}{led:Led}{s:Shared}(r:Rel Fz J dr os led Z V s):Rel Fz J dr os (led++[(Z+1,cN lK (.ref Z) .none)]) (Z+2) V
  {s with heap:=(s.heap.push {cls:=.type "tuple",data:=.seq #[]}).push {cls:=.type "StopIteration",data:=.fields #[.ref s.heap.objs.size,.none,.none,.none,.bool false,.none]}}:=by
 have hs:s.heap.objs.size=Z:=r.size
 have r2:=(r.push (o:={cls:=.type "tuple",data:=.seq #[]}) rfl).push (o:={cls:=.type "StopIteration",data:=.fields #[.ref Z,.none,.none,.none,.bool false,.none]}) rfl
 rw[hs]
 have r3:=r2.perm (show((led++[(Z,({cls:=.type "tuple",data:=.seq #[]}:Obj))])++[(Z+1,({cls:=.type "StopIteration",data:=.fields #[.ref Z,.none,.none,.none,.bool false,.none]}:Obj))]).Perm ((Z,{cls:=.type "tuple",data:=.seq #[]})::(led++[(Z+1,{cls:=.type "StopIteration",data:=.fields #[.ref Z,.none,.none,.none,.bool false,.none]})])) by
  rw[List.append_assoc];exact List.perm_middle)
 have r4:=(Rel.cons r3).anti (F:=Fz) fun b o h=>.inl h
 rw[←O7] at r4
 exact r4
noncomputable def X7 (it l i:Nat)(Z V:Nat):Ans:=⟨.builtin "list_iterator.__next__" ⟨[.ref it],[]⟩,950,[(it,cz l i)],.error (.ref (Z+1)),[jo i],[(Z+1,cN lK (.ref Z) .none)],fun _ _=>False,[],Z+2,V⟩
theorem Ge {it l i ep:Nat}{vs:List Value}(hl:F l (aa ep vs))(hx:vs[i]?=none):bu aH w J dr os F (X7 it l i Z V) Z V:=by
 refine⟨fun _ _ h=>h.elim,fun _ h=>(nomatch h),fun Fz hF A _ _ hh s r=>?_⟩
 show codeAny _ A (.builtin "list_iterator.__next__" ⟨[.ref it],[]⟩) (fun r' s'=>r'=.error (.ref (Z+1))∧Rel (aj Fz (fun _ _=>False)) J dr os ([(it,jo i)]++[(Z+1,cN lK (.ref Z) .none)]) (Z+2) V s') s
 rw[bJ]
 refine wZ hh (r.own _ (.head _)) (r.keep _ _ (hF _ _ hl)) hx ⟨by rw[r.size],?_⟩
 have r1:Rel Fz J dr os [(it,jo i)] Z V _:=r.upd (i:=0) (p:=(it,cz l i)) (f:=Obj.mapFields fun y=>y.setIfInBounds 0 .none) rfl rfl
 have:=xr r1
 have e1:(s.heap.update it (Obj.mapFields fun y=>y.setIfInBounds 0 .none)).objs.size=s.heap.objs.size:=(Heap.SameBut.update ..).1
 simp only[e1] at this
 exact this
noncomputable def X6 (it l i ep:Nat)(vs:List Value)(Z V:Nat):Ans:=⟨.builtin "list_iterator.__next__" ⟨[.ref it],[]⟩,950,[(l,aa ep vs),(it,cz l i)],.error (.ref (Z+1)),[aa ep vs,jo i],[(Z+1,cN lK (.ref Z) .none)],fun _ _=>False,[],Z+2,V⟩
theorem Ut {it l i ep:Nat}{vs:List Value}(hx:vs[i]?=none):bu aH w J dr os F (X6 it l i ep vs Z V) Z V:=by
 refine⟨fun _ _ h=>h.elim,fun _ h=>(nomatch h),fun Fz hF A _ _ hh s r=>?_⟩
 show codeAny _ A (.builtin "list_iterator.__next__" ⟨[.ref it],[]⟩) (fun r' s'=>r'=.error (.ref (Z+1))∧Rel (aj Fz (fun _ _=>False)) J dr os ([(l,aa ep vs),(it,jo i)]++[(Z+1,cN lK (.ref Z) .none)]) (Z+2) V s') s
 rw[bJ]
 refine wZ hh (r.own _ (.tail _ (.head _))) (r.own _ (.head _)) hx ⟨by rw[r.size],?_⟩
 have r1:Rel Fz J dr os [(l,aa ep vs),(it,jo i)] Z V _:=r.upd (i:=1) (p:=(it,cz l i)) (f:=Obj.mapFields fun y=>y.setIfInBounds 0 .none) rfl rfl
 have:=xr r1
 have e1:(s.heap.update it (Obj.mapFields fun y=>y.setIfInBounds 0 .none)).objs.size=s.heap.objs.size:=(Heap.SameBut.update ..).1
 simp only[e1] at this
 exact this
theorem G7 (ep:Nat)(vs:List Value)(x:Value):(aa ep vs).mapSeq (·.push x)=aa (jM ((aa ep vs).mapSeq (·.push x))) (vs++[x]):=by
 show(⟨.type qZ,none,.seq ((⟨vs⟩:Array Value).push x) _,#[]⟩:Obj)=⟨.type qZ,none,.seq ⟨vs++[x]⟩ _,#[]⟩
 have:(⟨vs⟩:Array Value).push x=⟨vs++[x]⟩:=by simp
 rw[this]
 rfl
noncomputable def aB (ep:Nat)(vs:List Value)(x:Value):Nat:=jM ((aa ep vs).mapSeq (·.push x))
theorem jb (ep:Nat)(vs:List Value):aa ep vs={cls:=.type "list",dict:=none,data:=.seq ⟨vs⟩ ep,slots:=#[]}:=by
 unfold aa
 rw[Cq]
noncomputable def YC (l ep:Nat)(vs:List Value)(x:Value)(Z V:Nat):Ans:=⟨.builtin "list.append" ⟨[.ref l,x],[]⟩,950,[(l,aa ep vs)],.ok (.ret .none),[aa (aB ep vs x) (vs++[x])],[],fun _ _=>False,[],Z,V⟩
theorem Qj {l ep:Nat}{vs:List Value}{x:Value}(hv:vs.length≤50000):bu aH w J dr os F (YC l ep vs x Z V) Z V:=by
 refine⟨fun _ _ h=>h.elim,fun _ h=>(nomatch h),fun Fz hF A _ _ _ s r=>?_⟩
 show codeAny _ A (.builtin "list.append" ⟨[.ref l,x],[]⟩) (fun r' s'=>r'=.ok (.ret .none)∧Rel (aj Fz (fun _ _=>False)) J dr os [(l,aa (aB ep vs x) (vs++[x]))] Z V s') s
 rw[bJ]
 have hz:(⟨vs⟩:Array Value).size≤sizeLine:=by
  show vs.length≤sizeLine
  have:sizeLine=16777216:=rfl
  lia
 refine bj (entryFor_of_fast (by kernel_rfl)) (by decide +kernel) (PySem.AutoListH.list_append_list_val_0 l ⟨vs⟩ ep x hz) ⟨(r.own _ (.head _)).trans (congrArg some (jb ep vs)),rfl,?_⟩
 have:=r.upd (i:=0) (p:=(l,aa ep vs)) (f:=Obj.mapSeq (·.push x)) rfl rfl
 have e:Di (Obj.mapSeq (·.push x)) [(l,aa ep vs)] 0=[(l,aa (aB ep vs x) (vs++[x]))]:=by
  show [(l,(aa ep vs).mapSeq (·.push x))]=_
  rw[G7]
  rfl
 exact e▸this
noncomputable def Te:List (Str×Nat)→Nat→Nat
 |[p],_=>p.2
 |_,V=>V
noncomputable def YS:List (Str×Nat)→Nat→Nat
 |[_],V=>V
 |_,V=>V+1
theorem GC (sep x:Str):Builtin.Str.glued sep [x]=x:=by
 unfold Builtin.Str.glued
 simp
noncomputable def YZ (sep:Str)(t l:Nat)(ps:List (Str×Nat))(Z V:Nat):Ans:=iH (.builtin "str.join" ⟨[.str sep t,.ref l],[]⟩) [] (.str (Builtin.Str.glued sep (ps.map (·.1))) (Te ps V)) Z (YS ps V)
theorem QR {sep:Str}{t l ep:Nat}{ps:List (Str×Nat)}(hl:F l (aa ep (strValues ps)))(h1:Builtin.Str.tooLong ((ps.map (·.1)).toArray.foldl (·+·.length+sep.length) 0)=false)(h2:(Builtin.Str.glued sep (ps.map (·.1))).length≤sizeLine):bu aH w J dr os F (YZ sep t l ps Z V) Z V:=by
 refine⟨fun _ _ h=>h.elim,fun _ h=>(nomatch h),fun Fz hF A _ _ _ s r=>?_⟩
 show codeAny _ A (.builtin "str.join" ⟨[.str sep t,.ref l],[]⟩) (fun r' s'=>r'=.ok (.ret (.str (Builtin.Str.glued sep (ps.map (·.1))) (Te ps V)))∧Rel (aj Fz (fun _ _=>False)) J dr os [] Z (YS ps V) s') s
 rw[bJ]
 refine bj (entryFor_of_fast (by kernel_rfl)) (by decide +kernel) (meets_str_join_list sep t l ps h1) ⟨⟨_,r.keep _ _ (hF _ _ hl),by show Value.type qZ=_;rw[Cq],ep,rfl⟩,?_⟩
 match ps with
 |[]=>exact⟨h2,by rw[r.toks];rfl,r.fresh 1⟩
 |[p]=>
  exact⟨by rw[List.map_cons,List.map_nil,GC];rfl,r⟩
 |_::_::_=>exact⟨h2,by rw[r.toks];rfl,r.fresh 1⟩
end
end
section
open Sem (wp)
noncomputable def Sub (F G:bw):Prop:=∀b o,F b o→G b o
noncomputable def aW (X:bw)(Z:Nat):Prop:=∀b o,X b o→Z≤b
inductive All2 {α β:Type}(R:α→β→Prop):List α→List β→Prop where
 |nil:All2 R [] []
 |cons {a:α} {b:β} {l:List α} {m:List β} (h:R a b) (t:All2 R l m):All2 R (a::l) (b::m)
theorem All2.imp {α β:Type}{R S:α→β→Prop}(h:∀a b,R a b→S a b):∀{l:List α} {m:List β},All2 R l m→All2 S l m:=fun k=>by
 induction k with
 |nil=>exact .nil
 |cons x _ ih=>exact .cons (h _ _ x) ih
theorem All2.app {α β:Type}{R:α→β→Prop}:∀{l l':List α} {m m':List β},All2 R l m→All2 R l' m'→All2 R (l++l') (m++m'):=fun h k=>by
 induction h with
 |nil=>exact k
 |cons x _ ih=>exact .cons x ih
theorem All2.len {α β:Type}{R:α→β→Prop}:∀{l:List α} {m:List β},All2 R l m→m.length=l.length:=fun h=>by
 induction h with
 |nil=>rfl
 |cons _ _ ih=>exact congrArg (·+1) ih
noncomputable def bG (l:Led):bw:=fun b o=>(b,o)∈l
theorem Sub.refl (F:bw):Sub F F:=fun _ _ h=>h
theorem Sub.trans {F G H:bw}(h:Sub F G)(k:Sub G H):Sub F H:=fun b o x=>k b o (h b o x)
theorem Sub.orL (F X:bw):Sub F (aj F X):=fun _ _ h=>.inl h
theorem Sub.orR (F X:bw):Sub X (aj F X):=fun _ _ h=>.inr h
theorem Sub.mono {F G X:bw}(h:Sub F G):Sub (aj F X) (aj G X):=fun b o x=>x.elim (fun y=>.inl (h b o y)) .inr
theorem Sub.both {F G X:bw}(h:Sub F G)(k:Sub X G):Sub (aj F X) G:=fun b o x=>x.elim (h b o) (k b o)
theorem aW.le {X:bw}{a b:Nat}(h:aW X b)(k:a≤b):aW X a:=fun c o x=>Nat.le_trans k (h c o x)
theorem aW.or {X Y:bw}{a:Nat}(h:aW X a)(k:aW Y a):aW (aj X Y) a:=fun c o x=>x.elim (h c o) (k c o)
theorem aW.none (a:Nat):aW (fun _ _=>False) a:=fun _ _ h=>h.elim
theorem Sub.no (F:bw):Sub (fun _ _=>False) F:=fun _ _ h=>h.elim
theorem aW.frL {l:Led}{a:Nat}(h:∀p∈l,a≤p.1):aW (Mine.bG l) a:=fun b o x=>h (b,o) x
section
variable {w:World} {J:Array GenState} {dr:Drawn} {os:Osw} {F F' F'' G:bw} {led led' led'' a b:Led} {Z V Z' V' Z'' V'':Nat} {lim:Nat} {c c':Code} {r:Result}
variable (w J dr os) in
noncomputable def jm (lim:Nat)(c:Code)(F:bw)(led:Led)(Z V:Nat)(c':Code)(F':bw)(led':Led)(Z' V':Nat):Prop:=
 ∀A:Around,A.depth≤lim→A.units≤2*lim→A.handled=none→∀R:Result→Shared→Prop,
  (∀s',Rel F' J dr os led' Z' V' s'→codeAny (model aH w) A c' R s')→∀s,Rel F J dr os led Z V s→codeAny (model aH w) A c R s
theorem jm.con (h:jm w J dr os lim c F led Z V c' F' led' Z' V')(k:jO aH w J dr os lim c' F' led' Z' V' r F'' led'' Z'' V''):jO aH w J dr os lim c F led Z V r F'' led'' Z'' V'':=
 fun A hA hU hh s rl=>h A hA hU hh _ (fun s' r'=>k A hA hU hh s' r') s rl
theorem jm.trans {c'':Code}(h:jm w J dr os lim c F led Z V c' F' led' Z' V')(k:jm w J dr os lim c' F' led' Z' V' c'' F'' led'' Z'' V''):jm w J dr os lim c F led Z V c'' F'' led'' Z'' V'':=
 fun A hA hU hh R K s rl=>h A hA hU hh R (fun s' r'=>k A hA hU hh R K s' r') s rl
theorem jm.post (h:jm w J dr os lim c F led Z V c' F' led' Z' V')(k:∀s,Rel F' J dr os led' Z' V' s→Rel F'' J dr os led'' Z' V' s):jm w J dr os lim c F led Z V c' F'' led'' Z' V':=
 fun A hA hU hh R K s rl=>h A hA hU hh R (fun s' r'=>K s' (k s' r')) s rl
theorem Gs {n h:Nat}{ro:Led}{ant:Ant}{m:Nat}{R:Res}(hR:run w.params lim n h c led Z V ro ant=R)(H:vw R m=(true,true,.again c',led',rights (cH R)))(hq:c'.quiet=true)(hkt:∀a o,(ktop w.params).get a=some o→F a o)(hro:∀p∈ro,F p.1 p.2)(hant:aA aH w J dr os F ant):
  jm w J dr os lim c F led Z V c' (frame (aj F (rF R)) (iQ m (fH R))) led' (dw R) (bk R):=by
 intro A hA hU hh R₀ K s rl
 refine dm (bT H) fun h1 h2 h3 h4 h5=>?_
 cases R with
 |bad _ _=>cases h1
 |ok σ=>
  have e:=hR
  refine lU hkt hro hant e h5 hA hU hh (fun _ q=>nomatch q) (fun s' r'=>?_) rl
  rw[nG h3,rJ h2]
  have r2:=r'.small m
  have h4':di m σ.led=led':=h4
  rw[h4'] at r2
  exact fun _ _ _ _=>⟨hq,K s' r2⟩
theorem Rel.freeze {s:Shared}:∀{a b:Led},Rel F J dr os (a++b) Z V s→Rel (aj F (bG b)) J dr os a Z V s:=by
 intro a b r
 have nd:=r.nd
 rw[List.map_append] at nd
 have nda:=List.nodup_append.mp nd
 refine⟨r.size,fun x o h=>?_,fun q hq=>r.own q (List.mem_append_left _ hq),fun q hq o h=>?_,nda.1,r.rest,fun q hq=>?_⟩
 ·rcases h with h|h
  ·exact r.keep x o h
  ·exact r.own (x,o) (List.mem_append_right _ h)
 ·rcases h with h|h
  ·exact r.apart q (List.mem_append_left _ hq) o h
  ·exact nda.2.2 q.1 (List.mem_map.mpr ⟨q,hq,rfl⟩) q.1 (List.mem_map.mpr ⟨(q.1,o),h,rfl⟩) rfl
 ·refine aK (r.wf q hq) fun h1 h2 h3=>?_
  refine⟨h1,fun o h=>?_,fun hm=>h3 (by rw[List.map_append];exact List.mem_append_left _ hm)⟩
  rcases h with h|h
  ·exact h2 o h
  ·exact h3 (by rw[List.map_append];exact List.mem_append_right _ (List.mem_map.mpr ⟨(q.1,o),h,rfl⟩))
theorem fZ {n h:Nat}{ro:Led}{ant:Ant}{m:Nat}{X:bw}{R:Res}(hR:run w.params lim n h c led Z V ro ant=R)(H:vw R m=(true,true,.again c',a++b,rights (cH R)))(hs:dw R=Z')(ht:bk R=V')(hX:Sub X (rF R))(hq:c'.quiet=true)(hkt:∀a o,(ktop w.params).get a=some o→F a o)(hro:∀p∈ro,F p.1 p.2)(hant:aA aH w J dr os F ant):
  jm w J dr os lim c F led Z V c' (aj F (aj X (bG b))) a Z' V':=by
 subst hs ht
 refine(Gs (F:=F) hR H hq hkt hro hant).post fun s r=>?_
 exact r.freeze.anti fun x o h=>h.elim (fun y=>.inl (.inl (.inl y))) fun y=>y.elim (fun z=>.inl (.inl (.inr (hX _ _ z)))) .inr
theorem iz {n h:Nat}{ro:Led}{ant:Ant}{m:Nat}{f:Flow}{X:bw}{R:Res}(hR:run w.params lim n h c led Z V ro ant=R)(H:vw R m=(true,true,.done f,a++b,rights (cH R)))(hs:dw R=Z')(ht:bk R=V')(hX:Sub X (rF R))(hkt:∀a o,(ktop w.params).get a=some o→F a o)(hro:∀p∈ro,F p.1 p.2)(hant:aA aH w J dr os F ant):
  jO aH w J dr os lim c F led Z V (.ok f) (aj F (aj X (bG b))) a Z' V':=by
 subst hs ht
 refine(yq (F:=F) hR H hkt hro hant).post fun s r=>?_
 exact r.freeze.anti fun x o h=>h.elim (fun y=>.inl (.inl (.inl y))) fun y=>y.elim (fun z=>.inl (.inl (.inr (hX _ _ z)))) .inr
theorem cV {n h:Nat}{ro:Led}{ant:Ant}{m:Nat}{Fr:bw}{a:Hk→Tks→Led}{b:Led}(f:Fa (run w.params lim n h c led Z V ro ant) m (.again c') (fun R=>a (ak R 0) (aq R 0)++b) Z' V')(hq:c'.quiet=true)(hkt:Sub (KF w.params) Fr)(hro:∀p∈ro,Fr p.1 p.2)(hant:∀Fz,Sub Fr Fz→aA aH w J dr os Fz ant):
  ∃k t,∀Fz,Sub Fr Fz→jm w J dr os lim c Fz led Z V c' (aj Fz (aj (fun _ _=>False) (bG b))) (a k t) Z' V':=by
 refine dh f.ex fun R hR H hs ht=>?_
 exact⟨_,_,fun Fz hz=>fZ hR H hs ht (Sub.no _) hq (fun x o q=>hz _ _ (hkt x o q)) (fun p hp=>hz _ _ (hro p hp)) (hant Fz hz)⟩
theorem dz {n h:Nat}{ro:Led}{ant:Ant}{m:Nat}{Fr:bw}{a:Hk→Led}{b:Led}(f:Fa (run w.params lim n h c led Z V ro ant) m (.again c') (fun R=>a (ak R 0)++b) Z' V')(hq:c'.quiet=true)(hkt:Sub (KF w.params) Fr)(hro:∀p∈ro,Fr p.1 p.2)(hant:∀Fz,Sub Fr Fz→aA aH w J dr os Fz ant):
  ∃k,∀Fz,Sub Fr Fz→jm w J dr os lim c Fz led Z V c' (aj Fz (aj (fun _ _=>False) (bG b))) (a k) Z' V':=by
 refine dh f.ex fun R hR H hs ht=>?_
 exact⟨_,fun Fz hz=>fZ hR H hs ht (Sub.no _) hq (fun x o q=>hz _ _ (hkt x o q)) (fun p hp=>hz _ _ (hro p hp)) (hant Fz hz)⟩
theorem Hn {S:Type}{n base:Nat}{Fn:bw}{ld:Nat→S→Hk→Tks→Led}{I:Nat→S→bw→Prop}{ld':S→Hk→Tks→Led}(turn:∀i s Fr Z V,i<n→base≤Z→Sub Fn Fr→I i s Fr→∃s' X Z' V',Z≤Z'∧aW X Z∧I (i+1) s' (aj Fr X)∧∀k t,∃k' t',∀Fz,Sub Fr Fz→jm w J dr os lim c Fz (ld i s k t) Z V c (aj Fz X) (ld (i+1) s' k' t') Z' V')(fin:∀s Fr Z V,Sub Fn Fr→I n s Fr→∃Z' V',Z≤Z'∧∀k t,∃k' t',∀Fz,Sub Fr Fz→jO aH w J dr os lim c Fz (ld n s k t) Z V r Fz (ld' s k' t') Z' V'):
  ∀d i s Fr Z V,i+d=n→base≤Z→Sub Fn Fr→I i s Fr→∃s' X Z' V',Z≤Z'∧aW X Z∧I n s' (aj Fr X)∧∀k t,∃k' t',∀Fz,Sub Fr Fz→jO aH w J dr os lim c Fz (ld i s k t) Z V r (aj Fz X) (ld' s' k' t') Z' V':=by
 intro d
 induction d with
 |zero=>
  intro i s Fr Z V hi _ hF hI
  have:i=n:=hi
  subst this
  refine b7 (fin s Fr Z V hF hI) fun Z' V' h1 h2=>?_
  refine⟨s,fun _ _=>False,Z',V',h1,aW.none _,by rw[bJ];exact hI,fun k t=>?_⟩
  refine aJ (h2 k t) fun k' t' h3=>?_
  exact⟨k',t',fun Fz hz=>by rw[bJ];exact h3 Fz hz⟩
 |succ d ih=>
  intro i s Fr Z V hi hb hF hI
  obtain⟨s1,X1,sz1,tok1,h1,hX1,hI1,h2⟩:=turn i s Fr Z V (by lia) hb hF hI
  obtain⟨s2,X2,sz2,tok2,h3,hX2,hI2,h4⟩:=ih (i+1) s1 (aj Fr X1) sz1 tok1 (by lia) (Nat.le_trans hb h1) (hF.trans (Sub.orL _ _)) hI1
  refine⟨s2,aj X1 X2,sz2,tok2,Nat.le_trans h1 h3,hX1.or (hX2.le h1),by rw[←cX];exact hI2,fun k t=>?_⟩
  refine aJ (h2 k t) fun k1 t1 h5=>?_
  refine aJ (h4 k1 t1) fun k2 t2 h6=>?_
  refine⟨k2,t2,fun Fz hz=>?_⟩
  rw[←cX]
  exact(h5 Fz hz).con (h6 (aj Fz X1) hz.mono)
theorem xP {S:Type}{n:Nat}{Fn:bw}{ld:Nat→S→Hk→Tks→Led}{I:Nat→S→bw→Prop}{ld':S→Hk→Tks→Led}(turn:∀i s Fr Z V,i<n→Sub Fn Fr→I i s Fr→∃s' X Z' V',Z≤Z'∧aW X Z∧I (i+1) s' (aj Fr X)∧∀k t,∃k' t',∀Fz,Sub Fr Fz→jm w J dr os lim c Fz (ld i s k t) Z V c (aj Fz X) (ld (i+1) s' k' t') Z' V')(fin:∀s Fr Z V,Sub Fn Fr→I n s Fr→∃Z' V',Z≤Z'∧∀k t,∃k' t',∀Fz,Sub Fr Fz→jO aH w J dr os lim c Fz (ld n s k t) Z V r Fz (ld' s k' t') Z' V'):
  ∀d i s Fr Z V,i+d=n→Sub Fn Fr→I i s Fr→∃s' X Z' V',Z≤Z'∧aW X Z∧I n s' (aj Fr X)∧∀k t,∃k' t',∀Fz,Sub Fr Fz→jO aH w J dr os lim c Fz (ld i s k t) Z V r (aj Fz X) (ld' s' k' t') Z' V':=
 fun d i s Fr Z V hi hF hI=>Hn (base:=0) (fun i s Fr Z V hi _ hF hI=>turn i s Fr Z V hi hF hI) fin d i s Fr Z V hi (Nat.zero_le _) hF hI
theorem jO.thaw {p:Addr×Obj}(h:jO aH w J dr os lim c (frame F [p]) led Z V r (aj (frame F [p]) G) led' Z' V')(hG:aW G Z):
  jO aH w J dr os lim c F (p::led) Z V r (aj F G) (p::led') Z' V':=by
 intro A hA hU hh s rl Γ q hc hΓ
 refine wpCode_mono (fun r' s' x=>⟨x.1,?_⟩) (h A hA hU hh s rl.cons Γ q hc hΓ)
 have r':=x.2
 have hlt:p.1<Z:=rl.lt (rl.own p (.head _))
 refine⟨r'.size,fun b o hx=>?_,fun q hq=>?_,fun q hq o hx=>?_,?_,r'.rest,fun q hq=>?_⟩
 ·rcases hx with hx|hx
  ·exact r'.keep b o (.inl (.inl hx))
  ·exact r'.keep b o (.inr hx)
 ·rcases List.mem_cons.mp hq with e|e
  ·exact r'.keep q.1 q.2 (.inl (.inr (e▸List.mem_singleton.mpr rfl)))
  ·exact r'.own q e
 ·rcases List.mem_cons.mp hq with e|e
  ·subst e
   rcases hx with hx|hx
   ·exact rl.apart q (.head _) o hx
   ·exact absurd (hG _ _ hx) (Nat.not_le_of_lt hlt)
  ·rcases hx with hx|hx
   ·exact r'.apart q e o (.inl (.inl hx))
   ·exact r'.apart q e o (.inr hx)
 ·refine List.nodup_cons.mpr ⟨fun hm=>?_,r'.nd⟩
  refine aL (List.mem_map.mp hm) fun q hq e=>?_
  exact r'.apart q hq p.2 (.inl (.inr (by rw[List.mem_singleton];exact Prod.ext e rfl)))
 ·refine aK (r'.wf q hq) fun h1 h2 h3=>?_
  refine⟨h1,fun o h=>?_,fun hm=>?_⟩
  ·rcases h with h|h
   ·exact h2 o (.inl (.inl h))
   ·exact h2 o (.inr h)
  ·rcases List.mem_cons.mp hm with e|e
   ·exact h2 p.2 (.inl (.inr (by rw[List.mem_singleton];exact Prod.ext e rfl)))
   ·exact h3 e
theorem jO.perm' (K:jO aH w J dr os lim c F led Z V r F' led' Z' V')(h:a.Perm led)(h':led'.Perm b):jO aH w J dr os lim c F a Z V r F' b Z' V':=K.perm h h'
noncomputable def bc (m:Nat)(a:Ans)(Z V:Nat):An:=fun k=>.fix m (fun _=>a) Z V fun _=>k
theorem dO {m:Nat}{x:Ans}{k:Ant}(h:bu aH w J dr os F x Z V)(hk:aA aH w J dr os (aj F x.X) k):aA aH w J dr os F (bc m x Z V k):=fun _=>⟨h,hk⟩
theorem zm {it acc:Nat}{e:Expr}{env:Env}{l i:Nat}(hlc:Gw (.compStart e 0 (.ref it) (.ref acc) env)=some (it,.compLoop e 0 (.ref it) (.ref acc) env))(hm:(it,cz l i)∈led)(K:jO aH w J dr os lim (.compLoop e 0 (.ref it) (.ref acc) env) F led Z V r F' led' Z' V'):jO aH w J dr os lim (.compStart e 0 (.ref it) (.ref acc) env) F led Z V r F' led' Z' V':=fun A hA hU hh s rl=>by
 have ho:=rl.own _ hm
 have hli:H5 (cz l i)=true:=by
  unfold H5 cz
  rw[GR]
  rfl
 refine aJ (jq hli ho) fun l' j hit=>?_
 exact yl hlc hit (K A hA hU hh s rl)
noncomputable def bQ (nm:Str)(k:Hk)(cur:Option Value):Obj:=match cur with
 |none=>nZ Ci k 0 []
 |some v=>nZ Ci k 1 [(nm,v)]
noncomputable def uw (nm:Str)(d it acc l:Nat)(k:Hk)(cur:Option Value)(i ep:Nat)(vs:List Value):Led:=[(d,bQ nm k cur),(it,cz l i),(acc,aa ep vs)]
noncomputable def dR (it l i:Nat)(x:Value):An:=fun k=>.cons 2 (fun _ _ Z V=>XJ it l i x Z V) fun _ _ _ _=>k
noncomputable def gU (it l i:Nat):An:=fun k=>.cons 2 (fun _ _ Z V=>X7 it l i Z V) fun _ _ _ _=>k
noncomputable def bZ (m acc ep:Nat)(vs:List Value)(v:Value):An:=fun k=>.cons m (fun _ _ Z V=>YC acc ep vs v Z V) fun _ _ _ _=>k
noncomputable def Yu (sep:Str)(wa:Nat)(ps:List (Str×Nat)):An:=fun k=>.cons 0 (fun c _ Z V=>YZ sep (bH c 0) wa ps Z V) fun _ _ _ _=>k
theorem jt {it l i ep:Nat}{vs:List Value}{x:Value}{k:Ant}(hl:F l (aa ep vs))(hx:vs[i]?=some x)(hk:aA aH w J dr os F k):aA aH w J dr os F (dR it l i x k):=
 aV (fun _ _ _ _=>rfl) (fun _ _ _ _=>Ek hl hx) hk
theorem Rz {it l i ep:Nat}{vs:List Value}{k:Ant}(hl:F l (aa ep vs))(hx:vs[i]?=none)(hk:aA aH w J dr os F k):aA aH w J dr os F (gU it l i k):=
 aV (fun _ _ _ _=>rfl) (fun _ _ _ _=>Ge hl hx) hk
theorem eO {m acc ep:Nat}{vs:List Value}{v:Value}{k:Ant}(hv:vs.length≤50000)(hk:aA aH w J dr os F k):aA aH w J dr os F (bZ m acc ep vs v k):=
 aV (fun _ _ _ _=>rfl) (fun _ _ _ _=>Qj hv) hk
theorem Yw {sep:Str}{wa ep:Nat}{ps:List (Str×Nat)}{k:Ant}(hl:F wa (aa ep (strValues ps)))(h1:Builtin.Str.tooLong ((ps.map (·.1)).toArray.foldl (·+·.length+sep.length) 0)=false)(h2:(Builtin.Str.glued sep (ps.map (·.1))).length≤sizeLine)(hk:aA aH w J dr os F k):aA aH w J dr os F (Yu sep wa ps k):=
 aV (fun _ _ _ _=>rfl) (fun _ _ _ _=>QR hl h1 h2) hk
theorem All2.get {α β:Type}{R:α→β→Prop}:∀{l:List α} {m:List β} {i:Nat} {a:α},All2 R l m→l[i]?=some a→∃b,m[i]?=some b∧R a b:=fun {l m i a} h e=>by
 induction h generalizing i with
 |nil=>rw[List.getElem?_nil] at e;cases e
 |cons h _ ih=>cases i with
  |zero=>cases e;exact⟨_,rfl,h⟩
  |succ i=>exact ih e
theorem kW {δ:Type}{nm:Str}{d it acc l:Nat}{xs:List Value}{ds:List δ}{In:Value→δ→Prop}{Fn:bw}(hx:All2 In xs ds)(hn:xs.length≤50000){Out:δ→Value→bw→Prop}(hmono:∀x v F G,Sub F G→Out x v F→Out x v G)(turn:∀i x dd cur ep vs Fr Z V,xs[i]?=some x→In x dd→vs.length≤50000→Sub Fn Fr→∃v ep' X Z' V',Z≤Z'∧aW X Z∧Out dd v (aj Fr X)∧∀k,∃k',∀Fz,Sub Fr Fz→jm w J dr os lim c Fz (uw nm d it acc l k cur i ep vs) Z V c (aj Fz X) (uw nm d it acc l k' (some x) (i+1) ep' (vs++[v])) Z' V')(fin:∀cur ep vs Fr Z V,Sub Fn Fr→∃Z' V',Z≤Z'∧∀k,∀Fz,Sub Fr Fz→jO aH w J dr os lim c Fz (uw nm d it acc l k cur xs.length ep vs) Z V (.ok .next) Fz [(d,bQ nm k cur),(it,jo xs.length),(acc,aa ep vs)] Z' V')(Z V:Nat):
  ∃cur kd ep vs X Z' V',((xs=[]∧cur=none)∨(xs≠[]∧∃v,cur=some v))∧Z≤Z'∧aW X Z∧All2 (fun x v=>Out x v (aj Fn X)) ds vs∧∀Fz,Sub Fn Fz→jO aH w J dr os lim c Fz (uw nm d it acc l (fun _=>(0,0)) none 0 0 []) Z V (.ok .next) (aj Fz X) [(d,bQ nm kd cur),(it,jo xs.length),(acc,aa ep vs)] Z' V':=by
 have hlen:ds.length=xs.length:=hx.len
 obtain⟨⟨cur,ep,vs⟩,X,Z',V',h1,h2,h3,h4⟩:=xP (w:=w) (J:=J) (dr:=dr) (os:=os) (lim:=lim) (c:=c) (r:=.ok .next) (S:=Option Value×Nat×List Value) (n:=xs.length) (Fn:=Fn)
  (ld:=fun i s k _=>uw nm d it acc l k s.1 i s.2.1 s.2.2) (ld':=fun s k _=>[(d,bQ nm k s.1),(it,jo xs.length),(acc,aa s.2.1 s.2.2)])
  (I:=fun i s Fr=>((i=0∧s.1=none)∨(0<i∧∃v,s.1=some v))∧i≤xs.length∧s.2.2.length=i∧All2 (fun x v=>Out x v Fr) (ds.take i) s.2.2)
  (fun i s Fr Z V hi hF hI=>by
   obtain⟨cur,ep,vs⟩:=s
   refine cg hI fun _ _ hlen hfa=>?_
   have hxi:xs[i]?=some xs[i]:=List.getElem?_eq_getElem hi
   refine aL (hx.get hxi) fun dd hdd hin=>?_
   refine wW (turn i xs[i] dd cur ep vs Fr Z V hxi hin (by have:vs.length=i:=hlen;lia) hF) fun v ep' X Z' V' h1 h2 h3 h4=>?_
   refine⟨(some xs[i],ep',vs++[v]),X,Z',V',h1,h2,⟨.inr ⟨Nat.succ_pos i,_,rfl⟩,hi,by rw[List.length_append];show vs.length+1=_;rw[hlen],?_⟩,fun k t=>?_⟩
   ·rw[List.take_add_one,hdd]
    refine All2.app (R:=fun x v=>Out x v (aj Fr X)) (hfa.imp fun _ _ h=>hmono _ _ _ _ (Sub.orL _ _) h) (.cons h3 .nil)
   ·obtain⟨k',h5⟩:=h4 k
    exact⟨k',t,h5⟩)
  (fun s Fr Z V hF hI=>by
   obtain⟨cur,ep,vs⟩:=s
   refine b7 (fin cur ep vs Fr Z V hF) fun Z' V' h1 h2=>?_
   exact⟨Z',V',h1,fun k t=>⟨k,t,h2 k⟩⟩)
  xs.length 0 (none,0,[]) Fn Z V (Nat.zero_add _) (Sub.refl _) ⟨.inl ⟨rfl,rfl⟩,Nat.zero_le _,rfl,by rw[List.take_zero];exact .nil⟩
 refine aJ (h4 (fun _=>(0,0)) (fun _=>0)) fun k' t' h5=>?_
 have h6:=h3.2.2.2
 rw[←hlen,List.take_length] at h6
 refine⟨cur,k',ep,vs,X,Z',V',?_,h1,h2,h6,h5⟩
 rcases h3.1 with⟨e1,e2⟩|⟨e1,e2⟩
 ·exact .inl ⟨List.length_eq_zero_iff.mp e1,e2⟩
 ·exact .inr ⟨List.length_pos_iff.mp e1,e2⟩
end
end
noncomputable def Ni:Expr:=.Name (nm []) default
noncomputable def yG:Stmt→Expr
 |.Assign _ v _=>v
 |.Return (some v) _=>v
 |.Expr v _=>v
 |_=>Ni
noncomputable def Nz:List Expr→Nat→Expr
 |[],_=>Ni
 |e::_,0=>e
 |_::l,n+1=>Nz l n
noncomputable def Hj:Expr→Expr
 |.BinOp _ _ r _=>r
 |_=>Ni
noncomputable def Zk:Expr→Expr
 |.BinOp l _ _ _=>l
 |_=>Ni
noncomputable def Jh (i:Nat):Expr→Expr
 |.Call _ args _ _=>Nz args i
 |_=>Ni
noncomputable def Ij (i:Nat):Expr→Expr
 |.BoolOp _ vs _=>Nz vs i
 |_=>Ni
noncomputable def Xc:Expr→Expr
 |.Compare l _ _ _=>l
 |_=>Ni
noncomputable def Tw:Expr→Expr
 |.Compare _ _ rs _=>Nz rs 0
 |_=>Ni
noncomputable def YW:Stmt→Expr
 |.If t _ _ _=>t
 |_=>Ni
noncomputable def Wh:Stmt→List Stmt
 |.For _ _ b _ _=>b
 |_=>[]
noncomputable def Jq (s:Stmt)(it:Nat)(env:Env):Code:=match s with
 |.For t _ b o _=>.forLoop t (.ref it) b o env
 |_=>.block [] env
noncomputable def Jj:List (Str×NameKind)→List (Str×NameKind)
 |[]=>[]
 |p::l=>(match p.2 with
  |.free=>(p.1,.cell)
  |k=>(p.1,k))::Jj l
noncomputable def Nt (e:Expr)(d:Scope):Scope:=match e with
 |.ListComp _ _ s _=>{s with names:=Jj s.names}
 |_=>d
noncomputable def v4 (P:Params)(a fr d:Nat)(qual:Str)(cells:List (Str×Addr))(e:Expr):Env:={scope:=Nt e (fdOf P a).scope,locals:=d,globals:=(fdOf P a).globals,cells:=cells,qual:=qual,func:=none,code:=(fdOf P a).code,frame:=some fr,builtins:=(fdOf P a).builtins}
noncomputable def dK (e:Expr)(env:Env)(it acc:Nat):Code:=.compStart e 0 (.ref it) (.ref acc) env
noncomputable def cI (e:Expr)(env:Env)(it acc:Nat):Code:=.compLoop e 0 (.ref it) (.ref acc) env
noncomputable def stOf (P:Params)(a i:Nat):Stmt:=Ih (bodyOf (fdOf P a)) i
section
open Builtin
noncomputable def Src (F:bw)(Lm:Led)(l:Addr)(o:Obj):Prop:=F l o∨(l,o)∈Lm
noncomputable def cQ:bw:=fun _ _=>False
section
variable {w:World} {J:Array GenState} {dr:Drawn} {os:Osw} {F Fz:bw} {Z V:Nat} {Lm:Led}
theorem Src.get {l:Addr}{o:Obj}(h:Src F Lm l o)(hF:Sub F Fz){s:Shared}(r:Rel Fz J dr os Lm Z V s):s.heap.get? l=some o:=
 h.elim (fun x=>r.keep _ _ (hF _ _ x)) (r.own _)
theorem Src.is {l ep:Nat}{vs:List Value}(h:Src F Lm l (aa ep vs))(hF:Sub F Fz){s:Shared}(r:Rel Fz J dr os Lm Z V s):s.heap.get? l=some {cls:=.type "list",dict:=none,data:=.seq ⟨vs⟩ ep,slots:=#[]}:=by
 rw[h.get hF r,jb]
theorem Src.isL {l ep:Nat}{vs:List Value}(h:Src F Lm l (aa ep vs))(hF:Sub F Fz){s:Shared}(r:Rel Fz J dr os Lm Z V s):s.heap.IsList l ⟨vs⟩:=
 ⟨_,h.is hF r,rfl,ep,rfl⟩
noncomputable def lJ (c:Code)(Lm:Led)(v:Value)(Z V:Nat):Ans:=⟨c,950,Lm,.ok (.ret v),[],[],cQ,[],Z,V⟩
theorem dN {c:Code}{v:Value}{n:Nat}(h:∀(Fz:bw) (A:Around) (s:Shared) (R:Result→Shared→Prop),Sub F Fz→A.units≤1900→A.handled=none→Rel Fz J dr os Lm Z V s→R (.ok (.ret v)) {s with toks:=s.toks+n}→codeAny (model aH w) A c R s):
  bu aH w J dr os F (lJ c Lm v Z (V+n)) Z V:=by
 refine⟨fun _ _ h=>h.elim,fun _ h=>(nomatch h),fun Fz hF A _ hU hh s r=>?_⟩
 show codeAny _ A c (fun r' s'=>r'=.ok (.ret v)∧Rel (aj Fz (fun _ _=>False)) J dr os (gQ Lm []++[]) Z (V+n) s') s
 rw[bJ,pI,List.append_nil]
 exact h Fz A s _ hF hU hh r ⟨rfl,r.fresh n⟩
noncomputable def xR (c:Code)(Lm:Led)(o:Obj)(Z V:Nat):Ans:=⟨c,950,Lm,.ok (.ret (.ref Z)),[],[(Z,o)],cQ,[],Z+1,V⟩
theorem lD {c:Code}{o:Obj}{n:Nat}(hf:o.isFreed=false)(h:∀(Fz:bw) (A:Around) (s:Shared) (R:Result→Shared→Prop),Sub F Fz→A.units≤1900→A.handled=none→Rel Fz J dr os Lm Z V s→R (.ok (.ret (.ref s.heap.objs.size))) {s with heap:=s.heap.push o,toks:=s.toks+n}→codeAny (model aH w) A c R s):
  bu aH w J dr os F (xR c Lm o Z (V+n)) Z V:=by
 refine⟨fun _ _ h=>h.elim,fun _ h=>(nomatch h),fun Fz hF A _ hU hh s r=>?_⟩
 show codeAny _ A c (fun r' s'=>r'=.ok (.ret (.ref Z))∧Rel (aj Fz (fun _ _=>False)) J dr os (gQ Lm []++[(Z,o)]) (Z+1) (V+n) s') s
 rw[bJ,pI]
 refine h Fz A s _ hF hU hh r ⟨by rw[r.size],?_⟩
 exact(r.push hf).fresh n
noncomputable def K9 (c:Code)(l:Addr)(o o':Obj)(v:Value)(Z V:Nat):Ans:=⟨c,950,[(l,o)],.ok (.ret v),[o'],[],cQ,[],Z,V⟩
theorem zY {c:Code}{l:Addr}{o:Obj}{f:Obj→Obj}{v:Value}(hf:(f o).isFreed=false)(h:∀(A:Around) (s:Shared) (R:Result→Shared→Prop),A.units≤1900→A.handled=none→s.heap.get? l=some o→R (.ok (.ret v)) {s with heap:=s.heap.update l f}→codeAny (model aH w) A c R s):
  bu aH w J dr os F (K9 c l o (f o) v Z V) Z V:=by
 refine⟨fun _ _ h=>h.elim,fun _ h=>(nomatch h),fun Fz hF A _ hU hh s r=>?_⟩
 show codeAny _ A c (fun r' s'=>r'=.ok (.ret v)∧Rel (aj Fz (fun _ _=>False)) J dr os [(l,f o)] Z V s') s
 rw[bJ]
 refine h A s _ hU hh (r.own _ (.head _)) ⟨rfl,?_⟩
 exact r.upd (i:=0) (p:=(l,o)) (f:=f) rfl hf
theorem H6 {l ep:Nat}{vs:List Value}{k:Int}{t:Tok}{x:Value}{A:Around}{R:Result→Shared→Prop}{s:Shared}(hl:s.heap.get? l=some (aa ep vs))(h0:0≤k)(hfit:k<2 ^ 63)(hx:vs[k.toNat]?=some x)(h:R (.ok (.ret x)) s):
  codeAny (model aH w) A (.builtin "list.__getitem__" ⟨[.ref l,.int k t],[]⟩) R s:=by
 refine fC PySem.F.entry_list_getitem (by decide +kernel) ?_
 have hd:(aa ep vs).data=.seq ⟨vs⟩ ep:=rfl
 refine wpAny_bind (m:=Builtin.List.listSubscript? (.int k t)) (wpAny_listSubscript_int (fitsIndex_of h0 hfit) ?_)
 obtain⟨j,rfl⟩:=Int.eq_ofNat_of_zero_le h0
 have hx':(⟨vs⟩:Array Value)[j]?=some x:=by simpa using hx
 refine wpAny_bind (m:=seqItemAt l j>>=fun r=>pure (r.map (j,·))) (wpAny_bind (wpAny_seqItemAt hl hd (wpAny_pure ?_)))
 rw[hx']
 exact wpAny_pure ⟨x,rfl,h⟩
theorem GD {l ep:Nat}{vs:List Value}{t:Tok}{x:Value}{A:Around}{R:Result→Shared→Prop}{s:Shared}(hl:s.heap.get? l=some (aa ep vs))(hx:vs.getLast?=some x)(h:R (.ok (.ret x)) s):
  codeAny (model aH w) A (.builtin "list.__getitem__" ⟨[.ref l,.int (-1) t],[]⟩) R s:=by
 refine fC PySem.F.entry_list_getitem (by decide +kernel) ?_
 have hd:(aa ep vs).data=.seq ⟨vs⟩ ep:=rfl
 have hne:vs≠[]:=by intro e;rw[e] at hx;cases hx
 have hpos:0<vs.length:=List.length_pos_iff.mpr hne
 refine wpAny_bind (m:=Builtin.List.listSubscript? (.int (-1) t)) (wpAny_listSubscript_int (fitsIndex_neg (by decide) (by decide)) ?_)
 refine wpAny_bind (m:=Builtin.List.listItems (.ref l)>>=fun xs=>pure ((seqIndex? (-1) xs.size).bind fun i=>xs[i]?.map (i,·))) (wpAny_bind ?_)
 unfold Builtin.List.listItems
 refine wpAny_bind (wpAny_seqItems hl hd (wpAny_pure (wpAny_pure ?_)))
 have hidx:=seqIndex_neg (k:=-1) (n:=vs.length) (by decide) (by lia)
 have e1:(⟨vs⟩:Array Value).size=vs.length:=rfl
 have e2:(-1+(vs.length:Int)).toNat=vs.length-1:=by lia
 rw[e1,hidx,e2]
 have hx':(⟨vs⟩:Array Value)[vs.length-1]?=some x:=by
  rw[←hx,List.getLast?_eq_getElem?];simp
 simp only[Option.bind_some,hx',Option.map_some]
 exact wpAny_pure ⟨x,rfl,h⟩
theorem NP (a b:Value):jn a b={cls:=.type "slice",data:=.fields #[a,b,.none]}:=by
 unfold jn
 rw[zH]
theorem Hq {l sl ep:Nat}{vs:List Value}{vl vu:Value}{lo hi:Option Int}{A:Around}{R:Result→Shared→Prop}{s:Shared}(hl:s.heap.IsList l ⟨vs⟩)(hs:s.heap.get? sl=some (jn vl vu))(pl:IsPart vl lo)(pu:IsPart vu hi)(hsz:vs.length≤100000)(h:R (.ok (.ret (.ref s.heap.objs.size))) {s with heap:=s.heap.push {cls:=.type "list",data:=.seq (slicePick ⟨vs⟩ lo hi none)}}):
  codeAny (model aH w) A (.builtin "list.__getitem__" ⟨[.ref l,.ref sl],[]⟩) R s:=by
 refine fC PySem.F.entry_list_getitem (by decide +kernel) ?_
 obtain⟨o,ho,hc,ne,hd⟩:=id hl
 rw[NP] at hs
 have hTs:s.TypeIs (.ref sl) "slice":=⟨_,hs,rfl⟩
 have hds:({cls:=.type "slice",data:=.fields #[vl,vu,.none]}:Obj).data=.fields #[vl,vu,.none]:=rfl
 refine wpAny_bind (m:=Builtin.List.listSubscript? (.ref sl)) ?_
 unfold Builtin.List.listSubscript?
 refine wpAny_bind (wpAny_specialOf hTs slice_no_index ?_)
 simp only[Option.isNone_none,if_true]
 refine wpAny_pure ?_
 refine wpAny_bind (m:=typeOf (.ref sl)) (wpAny_typeOf hTs ?_)
 rw[if_neg (by decide)]
 rw[listSliceParts_eq]
 have hstep:¬((rawPart none==rawInt 0)=true):=Bool.false_ne_true
 refine wpAny_bind (wpAny_bind (wpAny_field hs hds (x:=.none) rfl (wpAny_bind (wpAny_listPart .none ?_))))
 rw[if_neg hstep]
 refine wpAny_bind (wpAny_field hs hds (x:=vl) rfl (wpAny_bind (wpAny_listPart pl ?_)))
 refine wpAny_bind (wpAny_field hs hds (x:=vu) rfl (wpAny_bind (wpAny_listPart pu (wpAny_pure ?_))))
 refine wpAny_bind (m:=Builtin.List.listItems (.ref l)) ?_
 unfold Builtin.List.listItems
 refine wpAny_bind (wpAny_seqItems ho hd (wpAny_pure ?_))
 refine wpAny_bind (wpAny_of_eq (sliceIndices_raw lo hi none _ (by simp)) ?_)
 refine wpAny_bind (wpAny_newObj_type (wpAny_pure ⟨_,rfl,h⟩) (Nat.le_trans (slicePick_size_le ⟨vs⟩ lo hi none) ?_))
 have:sizeLine=16777216:=rfl
 show vs.length≤_
 lia
theorem rI (vs:List Value):aa 0 vs={cls:=.type "list",data:=.seq ⟨vs⟩}:=by
 unfold aa
 rw[Cq]
noncomputable def aX (m:Nat)(Lm:Led)(l:Nat)(k:Int)(x:Value):An:=fun kk=>.cons m (fun c _ Z V=>lJ (.builtin "list.__getitem__" ⟨[.ref l,.int k (bH c 1)],[]⟩) Lm x Z (V+0)) fun _ _ _ _=>kk
theorem ie {m l ep:Nat}{k:Int}{vs:List Value}{x:Value}{kk:Ant}(hs:Src F Lm l (aa ep vs))(h0:0≤k)(hfit:k<2 ^ 63)(hx:vs[k.toNat]?=some x)(hk:aA aH w J dr os F kk):aA aH w J dr os F (aX m Lm l k x kk):=
 aV (fun _ _ _ _=>rfl) (fun _ _ _ _=>dN (n:=0) fun _ _ _ _ hF _ _ r h=>H6 (hs.get hF r) h0 hfit hx h) hk
noncomputable def dC (m:Nat)(Lm:Led)(l:Nat)(x:Value):An:=fun kk=>.cons m (fun c _ Z V=>lJ (.builtin "list.__getitem__" ⟨[.ref l,.int (-1) (bH c 1)],[]⟩) Lm x Z (V+0)) fun _ _ _ _=>kk
theorem fu {m l ep:Nat}{vs:List Value}{x:Value}{kk:Ant}(hs:Src F Lm l (aa ep vs))(hx:vs.getLast?=some x)(hk:aA aH w J dr os F kk):aA aH w J dr os F (dC m Lm l x kk):=
 aV (fun _ _ _ _=>rfl) (fun _ _ _ _=>dN (n:=0) fun _ _ _ _ hF _ _ r h=>GD (hs.get hF r) hx h) hk
noncomputable def iI (m:Nat)(Lm:Led→Led)(l:Nat)(sl:Led→Nat)(vs':List Value):An:=fun kk=>.cons m (fun _ g Z V=>xR (.builtin "list.__getitem__" ⟨[.ref l,.ref (sl g)],[]⟩) (Lm g) (aa 0 vs') Z (V+0)) fun _ _ _ _=>kk
theorem tU {m l ep:Nat}{Lm:Led→Led}{sl:Led→Nat}{vs vs':List Value}{lo hi:Option Int}{kk:Ant}(hs:∀g,Src F (Lm g) l (aa ep vs))(hsl:∀g,∃vl vu,(sl g,jn vl vu)∈Lm g∧IsPart vl lo∧IsPart vu hi)(hsz:vs.length≤100000)(hv:slicePick ⟨vs⟩ lo hi none=⟨vs'⟩)(hk:aA aH w J dr os F kk):aA aH w J dr os F (iI m Lm l sl vs' kk):=
 aV (fun _ _ _ _=>rfl) (fun _ g _ _=>lD (n:=0) rfl fun _ _ _ _ hF _ _ r h=>by
  refine c7 (hsl g) fun vl vu h1 h2 h3=>?_
  refine Hq (ep:=ep) ((hs g).isL hF r) (r.own _ h1) h2 h3 hsz ?_
  rw[hv,←rI]
  exact h) hk
theorem lW (vs:List Value):slicePick ⟨vs⟩ (some 1) none none=⟨vs.drop 1⟩:=by
 by_cases h:1≤vs.length
 ·exact slicePick_from ⟨vs⟩ 1 h
 ·have:vs=[]:=List.length_eq_zero_iff.mp (by lia)
  subst this
  rfl
theorem Hu (vs:List Value)(n:Nat):slicePick ⟨vs⟩ none (some n) none=⟨vs.take n⟩:=by
 have e:sliceBounds none (some (n:Int)) none vs.length=(((0:Nat):Int),((min n vs.length:Nat):Int),1):=by
  simp only[sliceBounds,Option.getD_none]
  have h1:¬((n:Int)<0):=by lia
  simp only[h1,if_false,show(1:Int)>0 by decide,if_true]
  congr 2
  lia
 unfold slicePick
 have e2:(⟨vs⟩:Array Value).size=vs.length:=rfl
 rw[e2,e]
 simp only[sliceRange_one,pick_run,List.drop_zero,Nat.sub_zero]
 rw[←List.take_eq_take_min]
theorem HY (vs:List Value):slicePick ⟨vs⟩ none (some (-1)) none=⟨vs.dropLast⟩:=by
 have e:sliceBounds none (some (-1)) none vs.length=(((0:Nat):Int),((vs.length-1:Nat):Int),1):=by
  simp only[sliceBounds,Option.getD_none]
  simp only[show(1:Int)>0 by decide,if_true,show(-1:Int)<0 by decide]
  congr 2
  lia
 unfold slicePick
 have e2:(⟨vs⟩:Array Value).size=vs.length:=rfl
 rw[e2,e]
 simp only[sliceRange_one,pick_run,List.drop_zero,Nat.sub_zero]
 rw[←List.dropLast_eq_take]
noncomputable def dY (m:Nat)(Lm:Led)(l b:Nat)(vs ws:List Value):An:=fun kk=>.cons m (fun _ _ Z V=>xR (.builtin "list.__add__" ⟨[.ref l,.ref b],[]⟩) Lm (aa 0 (vs++ws)) Z (V+0)) fun _ _ _ _=>kk
theorem nq {m l b ep ep2:Nat}{vs ws:List Value}{kk:Ant}(hs:Src F Lm l (aa ep vs))(hb:Src F Lm b (aa ep2 ws))(hsz:vs.length+ws.length≤100000)(hk:aA aH w J dr os F kk):aA aH w J dr os F (dY m Lm l b vs ws kk):=
 aV (fun _ _ _ _=>rfl) (fun _ _ _ _=>lD (n:=0) rfl fun _ _ _ _ hF _ _ r h=>by
  refine bj PySem.F.entry_list_add (by decide +kernel) (AutoSeq1.list___add___list_list_0 l ⟨vs⟩ ep b ⟨ws⟩ ep2 ?_) ⟨hs.is hF r,hb.is hF r,?_⟩
  ·have:sizeLine=16777216:=rfl
   show vs.length+ws.length≤_
   lia
  ·rw[rI] at h
   have:(⟨vs⟩:Array Value)++(⟨ws⟩:Array Value)=⟨vs++ws⟩:=by simp
   rw[this]
   exact h) hk
noncomputable def gj (ep:Nat)(vs:List Value)(f:Array Value→Array Value):Nat:=jM ((aa ep vs).mapSeq f)
theorem rM {ep:Nat}{vs ws:List Value}{f:Array Value→Array Value}(h:f ⟨vs⟩=⟨ws⟩):(aa ep vs).mapSeq f=aa (gj ep vs f) ws:=by
 have e:(aa ep vs).mapSeq f=⟨.type qZ,none,.seq (f ⟨vs⟩) (if((f ⟨vs⟩).size==(⟨vs⟩:Array Value).size)=true then ep else ep+1),#[]⟩:=rfl
 unfold gj
 rw[e,h]
 rfl
noncomputable def uG (v:Value):Array Value→Array Value:=fun xs=>have k:=if(0:Int)<0 then((0:Int)+((xs.size:Nat):Int)).toNat else min (0:Int).toNat xs.size;(xs.extract 0 k).push v++xs.extract k
noncomputable def vI (m l ep:Nat)(vs:List Value)(v:Value):An:=fun kk=>.cons m (fun c _ Z V=>K9 (.builtin "list.insert" ⟨[.ref l,.int 0 (bH c 1),v],[]⟩) l (aa ep vs) (aa (gj ep vs (uG v)) (v::vs)) .none Z V) fun _ _ _ _=>kk
theorem t6 {m l ep:Nat}{vs:List Value}{v:Value}{kk:Ant}(hsz:vs.length≤100000)(hk:aA aH w J dr os F kk):aA aH w J dr os F (vI m l ep vs v kk):=by
 refine aV (fun _ _ _ _=>rfl) (fun c _ Z V=>?_) hk
 have e:uG v ⟨vs⟩=⟨v::vs⟩:=by
  unfold uG
  simp
 rw[←rM e]
 refine zY rfl fun A s R _ _ hl h=>?_
 refine bj PySem.F.entry_list_insert (by decide +kernel) (AutoListH.list_insert_list_int_val_1 l ⟨vs⟩ ep 0 (bH c 1) v (by decide) ?_) ⟨by rw[hl,jb],h⟩
 have:sizeLine=16777216:=rfl
 show vs.length≤_
 lia
noncomputable def Iv (m l ep:Nat)(vs:List Value)(x:Value):An:=fun kk=>.cons m (fun _ _ Z V=>K9 (.builtin "list.pop" ⟨[.ref l],[]⟩) l (aa ep vs) (aa (gj ep vs fun xs=>xs.eraseIdxIfInBounds (vs.length-1)) vs.dropLast) x Z V) fun _ _ _ _=>kk
theorem Jd {m l ep:Nat}{vs:List Value}{x:Value}{kk:Ant}(hx:vs.getLast?=some x)(hsz:vs.length≤100000)(hk:aA aH w J dr os F kk):aA aH w J dr os F (Iv m l ep vs x kk):=by
 refine aV (fun _ _ _ _=>rfl) (fun c _ Z V=>?_) hk
 have e:(fun xs:Array Value=>xs.eraseIdxIfInBounds (vs.length-1)) ⟨vs⟩=⟨vs.dropLast⟩:=by
  apply Array.toList_inj.mp
  simp[Array.toList_eraseIdxIfInBounds,List.eraseIdx_length_sub_one]
 rw[←rM e]
 refine zY rfl fun A s R _ _ hl h=>?_
 refine bj PySem.F.entry_list_pop (by decide +kernel) (MeetsSeq.list_pop_last l ⟨vs⟩ ep x ?_ ?_) ⟨by rw[hl,jb],h⟩
 ·rw[←hx,List.getLast?_eq_getElem?];simp
 ·have:sizeLine=16777216:=rfl
  show vs.length≤_
  lia
noncomputable def xx (m l b ep ep2:Nat)(vs ws:List Value):An:=fun kk=>.cons m (fun _ _ Z V=>⟨.builtin "list.extend" ⟨[.ref l,.ref b],[]⟩,950,[(l,aa ep vs),(b,aa ep2 ws)],.ok (.ret .none),[aa (gj ep vs fun x=>x++(⟨ws⟩:Array Value)) (vs++ws),aa ep2 ws],[],cQ,[],Z,V⟩) fun _ _ _ _=>kk
theorem JD {m l b ep ep2:Nat}{vs ws:List Value}{kk:Ant}(hsz:vs.length+ws.length≤100000)(hk:aA aH w J dr os F kk):aA aH w J dr os F (xx m l b ep ep2 vs ws kk):=by
 refine aV (fun _ _ _ _=>rfl) (fun c _ Z V=>⟨fun _ _ h=>h.elim,fun _ h=>(nomatch h),fun Fz hF A _ hU hh s r=>?_⟩) hk
 have e:(fun x:Array Value=>x++(⟨ws⟩:Array Value)) ⟨vs⟩=⟨vs++ws⟩:=by simp
 show codeAny _ A (.builtin "list.extend" ⟨[.ref l,.ref b],[]⟩) (fun r' s'=>r'=.ok (.ret .none)∧Rel (aj Fz (fun _ _=>False)) J dr os [(l,aa (gj ep vs fun x=>x++(⟨ws⟩:Array Value)) (vs++ws)),(b,aa ep2 ws)] Z V s') s
 rw[bJ,←rM (ep:=ep) (vs:=vs) (f:=fun x:Array Value=>x++(⟨ws⟩:Array Value)) e]
 have this:sizeLine=16777216:=rfl
 refine bj PySem.F.entry_list_extend (by decide +kernel) (AutoSeq1.list_extend_list_list_0 l ⟨vs⟩ ep b ⟨ws⟩ ep2 ?_ ?_ ?_) ⟨(r.own _ (.head _)).trans (congrArg some (jb _ _)),(r.own _ (.tail _ (.head _))).trans (congrArg some (jb _ _)),rfl,?_⟩
 ·have h1:Builtin.List.listTooLong ((⟨vs⟩:Array Value).size+(⟨ws⟩:Array Value).size)=false:=by
   unfold Builtin.List.listTooLong
   have:(⟨vs⟩:Array Value).size+(⟨ws⟩:Array Value).size=vs.length+ws.length:=rfl
   simp only[this]
   exact decide_eq_false (by lia)
  rw[h1]
  simp
 ·show vs.length≤_
  lia
 ·show vs.length+ws.length≤_
  lia
 ·exact r.upd (i:=0) (p:=(l,aa ep vs)) (f:=Obj.mapSeq fun x=>x++(⟨ws⟩:Array Value)) rfl rfl
noncomputable def cB (m:Nat)(Lm:Led)(l:Nat)(n:Int):An:=fun kk=>.cons m (fun _ _ Z V=>lJ (.builtin "len" ⟨[.ref l],[]⟩) Lm (.int n (V+1)) Z (V+2)) fun _ _ _ _=>kk
theorem gf {m l ep:Nat}{vs:List Value}{n:Int}{kk:Ant}(hs:Src F Lm l (aa ep vs))(hn:(vs.length:Int)=n)(hsz:vs.length≤100000)(hk:aA aH w J dr os F kk):aA aH w J dr os F (cB m Lm l n kk):=by
 subst hn
 refine aV (fun _ _ _ _=>rfl) (fun _ _ _ _=>dN (n:=2) fun _ _ _ _ hF _ _ r h=>fC (entryFor_of_fast (by kernel_rfl)) (by decide +kernel) (wpAny_len_body_list (hs.isL hF r) ?_ ?_)) hk
 ·have:(⟨vs⟩:Array Value).size=vs.length:=rfl
  rw[this]
  have e:(2:Int) ^ 63=9223372036854775808:=rfl
  rw[e]
  lia
 ·rw[r.toks]
  have:(⟨vs⟩:Array Value).size=vs.length:=rfl
  rw[this]
  exact r.toks▸h
noncomputable def vq (m l ep:Nat)(vs:List Value)(v:Value):An:=fun kk=>.cons m (fun c _ Z V=>K9 (.builtin "list.__setitem__" ⟨[.ref l,.int (-1) (bH c 1),v],[]⟩) l (aa ep vs) (aa (gj ep vs fun xs=>xs.setIfInBounds (vs.length-1) v) (vs.dropLast++[v])) .none Z V) fun _ _ _ _=>kk
theorem BR:∀(vs:List Value) (v:Value),vs≠[]→vs.set (vs.length-1) v=vs.dropLast++[v]
 |[_],_,_=>rfl
 |a::b::l,v,_=>by
  have ih:=BR (b::l) v (by simp)
  show(a::b::l).set (l.length+1) v=_
  rw[List.set_cons_succ]
  exact congrArg (a::·) ih
theorem Nm {m l ep:Nat}{vs:List Value}{v:Value}{kk:Ant}(hne:vs≠[])(hk:aA aH w J dr os F kk):aA aH w J dr os F (vq m l ep vs v kk):=by
 refine aV (fun _ _ _ _=>rfl) (fun c _ Z V=>?_) hk
 have hpos:0<vs.length:=List.length_pos_iff.mpr hne
 have e:(fun xs:Array Value=>xs.setIfInBounds (vs.length-1) v) ⟨vs⟩=⟨vs.dropLast++[v]⟩:=by
  apply Array.toList_inj.mp
  simp[BR vs v hne]
 rw[←rM e]
 refine zY rfl fun A s R _ _ hl h=>?_
 refine fC PySem.F.entry_list_setitem (by decide +kernel) ?_
 have hd:(aa ep vs).data=.seq ⟨vs⟩ ep:=rfl
 refine wpAny_bind (m:=Builtin.List.listSubscript? (.int (-1) (bH c 1))) (wpAny_listSubscript_int (fitsIndex_neg (by decide) (by decide)) ?_)
 refine wpAny_bind (m:=Builtin.List.listItems (.ref l)>>=fun xs=>pure ((seqIndex? (-1) xs.size).bind fun i=>xs[i]?.map (i,·))) (wpAny_bind ?_)
 unfold Builtin.List.listItems
 refine wpAny_bind (wpAny_seqItems hl hd (wpAny_pure (wpAny_pure ?_)))
 have hidx:=seqIndex_neg (k:=-1) (n:=vs.length) (by decide) (by lia)
 have e1:(⟨vs⟩:Array Value).size=vs.length:=rfl
 have e2:(-1+(vs.length:Int)).toNat=vs.length-1:=by lia
 rw[e1,hidx,e2]
 have hx':(⟨vs⟩:Array Value)[vs.length-1]?=some (vs[vs.length-1]'(by lia)):=by simp
 simp only[Option.bind_some,hx',Option.map_some]
 exact wpAny_bind (wpAny_setSeqItemAt hl hd (wpAny_pure ⟨.none,rfl,h⟩))
end
end
section
open Builtin Builtin.Str
noncomputable def aQ (c:Nat):List Nat→List (List Nat)
 |[]=>[[]]
 |x::l=>if x=c then []::aQ c l else match aQ c l with
  |h::t=>(x::h)::t
  |[]=>[[x]]
noncomputable def ao (sep:List Nat):List (List Nat)→List Nat
 |[]=>[]
 |[x]=>x
 |x::rest=>x++sep++ao sep rest
theorem jy (c:Nat):∀l,aQ c l≠[]
 |[]=>by simp[aQ]
 |x::l=>by
  unfold aQ
  split
  ·simp
  ·split<;>simp
theorem vH {c:Nat}:∀{l:List Nat},c∉l→aQ c l=[l]
 |[],_=>rfl
 |x::l,h=>by
  unfold aQ
  rw[if_neg (fun e:x=c=>h (e▸List.mem_cons_self ..)),vH (fun e=>h (List.mem_cons_of_mem _ e))]
theorem tQ {c:Nat}(b:List Nat):∀{a:List Nat},c∉a→aQ c (a++c::b)=a::aQ c b
 |[],_=>by
  show aQ c (c::b)=_
  rw[aQ,if_pos rfl]
 |x::a,h=>by
  show aQ c (x::(a++c::b))=_
  rw[aQ,if_neg (fun e:x=c=>h (e▸List.mem_cons_self ..)),tQ b (fun e=>h (List.mem_cons_of_mem _ e))]
theorem mC {c:Nat}:∀{P:List (List Nat)},P≠[]→(∀p∈P,c∉p)→aQ c (ao [c] P)=P
 |[],h,_=>absurd rfl h
 |[p],_,h=>vH (h p (.head _))
 |p::q::r,_,h=>by
  show aQ c (p++[c]++ao [c] (q::r))=_
  rw[List.append_assoc,List.singleton_append,tQ _ (h p (.head _)),mC (by simp) fun x hx=>h x (.tail _ hx)]
theorem Dj (c:Nat):∀l,ao [c] (aQ c l)=l
 |[]=>rfl
 |x::l=>by
  have ih:=Dj c l
  unfold aQ
  split
  ·rename_i h
   subst h
   cases hs:aQ x l with
   |nil=>exact absurd hs (jy x l)
   |cons a b=>
    rw[hs] at ih
    show []++[x]++ao [x] (a::b)=_
    rw[ih];rfl
  ·cases hs:aQ c l with
   |nil=>exact absurd hs (jy c l)
   |cons a b=>
    rw[hs] at ih
    cases b with
    |nil=>show x::a=_;rw[←ih];rfl
    |cons b r=>show(x::a)++[c]++ao [c] (b::r)=_;rw[←ih];rfl
theorem Hv (c:Nat):∀l,∀p∈aQ c l,c∉p
 |[],p,h=>by
  rw[show aQ c []=[[]] from rfl,List.mem_singleton] at h
  rw[h];simp
 |x::l,p,h=>by
  have ih:=Hv c l
  unfold aQ at h
  split at h
  ·rcases List.mem_cons.mp h with e|e
   ·rw[e];simp
   ·exact ih p e
  ·rename_i hx
   split at h
   ·rename_i a b hs
    rcases List.mem_cons.mp h with e|e
    ·subst e
     intro hm
     rcases List.mem_cons.mp hm with z|z
     ·exact hx z.symm
     ·exact ih a (by rw[hs];exact .head _) z
    ·exact ih p (by rw[hs];exact .tail _ e)
   ·rw[List.mem_singleton] at h
    subst h
    simp only[List.mem_singleton]
    exact fun e=>hx e.symm
theorem Rh {a b:List Nat}(h:nm a=nm b):a=b:=by injection h with h;injection h
theorem PB (x:Str):nm x.cps.toList=x:=rfl
theorem zO (a b:List Nat):nm a++nm b=nm (a++b):=by
 apply Str.ext'
 apply Array.toList_inj.mp
 rw[Str.cps_append,Array.toList_append]
 rfl
theorem Ab (sep:List Nat):∀T:List (List Nat),Str.join (nm sep) (T.map nm)=nm (ao sep T)
 |[]=>rfl
 |[x]=>rfl
 |x::y::r=>by
  show nm x++nm sep++Str.join (nm sep) ((y::r).map nm)=_
  rw[Ab sep (y::r),zO,zO]
  rfl
theorem J2 (sep:List Nat)(T:List (List Nat)):glued (nm sep) (T.map nm)=nm (ao sep T):=by
 rw[StrLaws.glued_eq_join,Ab]
theorem Il (c:Nat)(l:List Nat):Txt.split (nm l) ⟨#[c]⟩=(aQ c l).map nm:=by
 have h1:=StrLaws.join_split (nm l) ⟨#[c]⟩
 have h2:=StrLaws.split_free (nm l) c
 generalize hP:Txt.split (nm l) ⟨#[c]⟩=P at h1 h2 ⊢
 have hne:P≠[]:=by
  intro e
  have:=PyProof.Rows.split_pos (nm l) ⟨#[c]⟩
  rw[hP,e] at this
  cases this
 have e1:P=(P.map fun x=>x.cps.toList).map nm:=by
  rw[List.map_map]
  conv=>lhs;rw[←List.map_id P]
  exact List.map_congr_left fun x _=>(PB x).symm
 have e2:l=ao [c] (P.map fun x=>x.cps.toList):=by
  rw[e1] at h1
  have h3:=Ab [c] (P.map fun x=>x.cps.toList)
  exact Rh (h1.symm.trans h3)
 rw[e2,mC (by intro e;exact hne (List.map_eq_nil_iff.mp e)) (fun p hp=>by
  refine aL (List.mem_map.mp hp) fun x hx er0=>?_;subst er0
  exact h2 x hx)]
 exact e1
end
section
open Builtin Builtin.Str
noncomputable def aY:List Nat→List Nat→Nat→Nat→Nat→Nat
 |[],_,_,ty,_=>ty
 |_::_,[],tx,_,_=>tx
 |_::_,_::_,_,_,V=>V
noncomputable def eN:List Nat→List Nat→Nat→Nat
 |[],_,V=>V
 |_::_,[],V=>V
 |_::_,_::_,V=>V+1
noncomputable def dB (x y:List Nat):An:=fun kk=>.cons 0 (fun c _ Z V=>lJ (.builtin "str.__add__" ⟨[.str (nm x) (bH c 0),.str (nm y) (bH c 1)],[]⟩) [] (.str (nm (x++y)) (aY x y (bH c 0) (bH c 1) V)) Z (eN x y V)) fun _ _ _ _=>kk
noncomputable def J6:Nat→List Str→List (Str×Nat)
 |_,[]=>[]
 |V,x::r=>(x,V)::J6 (V+1) r
theorem za:∀(V:Nat) (P:List Str),strValues (J6 V P)=strsFrom V P
 |_,[]=>rfl
 |V,x::r=>congrArg (Value.str x V::·) (za (V+1) r)
theorem Bh:∀(V:Nat) (P:List Str),(J6 V P).map (·.1)=P
 |_,[]=>rfl
 |V,x::r=>congrArg (x::·) (Bh (V+1) r)
noncomputable def mO (x y:Str)(t V:Nat):List (Str×Nat):=
 if(decide (x.length<y.length)||decide (strKind x<strKind y))=true then [(x,t)] else
 if(occurrences x y 0 x.length (x.length+1)).isEmpty=true then [(x,t)] else J6 V (partsBetween x (occurrences x y 0 x.length (x.length+1)) y.length)
noncomputable def lE (x y:Str):Nat:=
 if(decide (x.length<y.length)||decide (strKind x<strKind y))=true then 0 else
 if(occurrences x y 0 x.length (x.length+1)).isEmpty=true then 0 else(partsBetween x (occurrences x y 0 x.length (x.length+1)) y.length).length
theorem Mm (x y:Str)(t V:Nat):(mO x y t V).map (·.1)=Txt.split x y:=by
 unfold mO Txt.split
 split
 ·rfl
 ·split
  ·rfl
  ·exact Bh _ _
theorem QF (l:List Nat)(c t V:Nat):(mO (nm l) (nm [c]) t V).map (·.1)=(aQ c l).map nm:=(Mm _ _ _ _).trans (Il c l)
noncomputable def f9 (l:List Nat)(c0:Nat):An:=fun kk=>.cons 0 (fun c _ Z V=>xR (.builtin "str.split" ⟨[.str (nm l) (bH c 0),.str (nm [c0]) (bH c 1)],[]⟩) [] (aa 0 (strValues (mO (nm l) (nm [c0]) (bH c 0) V))) Z (V+lE (nm l) (nm [c0]))) fun _ _ _ _=>kk
noncomputable def uQ (lo:Option Nat)(n:Nat):Nat:=min (lo.getD 0) n
noncomputable def vZ (hi:Option Nat)(n:Nat):Nat:=min (hi.getD n) n
noncomputable def dX (lo hi:Option Nat)(l:List Nat):List Nat:=(l.drop (uQ lo l.length)).take (vZ hi l.length-uQ lo l.length)
noncomputable def vN (lo hi:Option Nat)(l:List Nat)(t V:Nat):Nat:=match Nat.beq (vZ hi l.length-uQ lo l.length) l.length with
 |true=>t
 |false=>V
noncomputable def bA (lo hi:Option Nat)(l:List Nat)(V:Nat):Nat:=match Nat.beq (vZ hi l.length-uQ lo l.length) l.length with
 |true=>V
 |false=>V+1
noncomputable def oI:Option Nat→Option Int
 |none=>none
 |some i=>some (i:Int)
noncomputable def O4 (t:Nat):Option Nat→Option (Int×Nat)
 |none=>none
 |some i=>some ((i:Int),t)
noncomputable def NZ (x:Option Nat)(t:Nat):Value:=match x with
 |none=>.none
 |some i=>.int i t
noncomputable def pL (m:Nat)(lo hi:Option Nat)(l:List Nat):An:=fun kk=>.cons m (fun c g Z V=>lJ (.builtin "str.__getitem__" ⟨[.str (nm l) (bH c 0),.ref (az g 0)],[]⟩) [(az g 0,jn (NZ lo (fL (au g 0) 0)) (NZ hi (fL (au g 0) 1)))] (.str (nm (dX lo hi l)) (vN lo hi l (bH c 0) V)) Z (bA lo hi l V)) fun _ _ _ _=>kk
noncomputable def gY (x y d:Int):An:=fun kk=>.cons 0 (fun c _ Z V=>lJ (.builtin "int.__sub__" ⟨[.int x (bH c 0),.int y (bH c 1)],[]⟩) [] (.int d V) Z (V+1)) fun _ _ _ _=>kk
noncomputable def TY (l:List Nat)(c t V:Nat):Nat:=match stripSame (nm [c]).cps.contains true false (nm l) with
 |true=>t
 |false=>V
noncomputable def Wd (l:List Nat)(c V:Nat):Nat:=match stripSame (nm [c]).cps.contains true false (nm l) with
 |true=>V
 |false=>V+1
noncomputable def oA (l:List Nat)(c0:Nat):An:=fun kk=>.cons 0 (fun c _ Z V=>lJ (.builtin "str.lstrip" ⟨[.str (nm l) (bH c 0),.str (nm [c0]) (bH c 1)],[]⟩) [] (.str (nm (l.dropWhile (·==c0))) (TY l c0 (bH c 0) V)) Z (Wd l c0 V)) fun _ _ _ _=>kk
noncomputable def v6 (l y:List Nat)(n:Int):An:=fun kk=>.cons 0 (fun c _ Z V=>lJ (.builtin "str.count" ⟨[.str (nm l) (bH c 0),.str (nm y) (bH c 1)],[]⟩) [] (.int n V) Z (V+1)) fun _ _ _ _=>kk
section
variable {w:World} {J:Array GenState} {dr:Drawn} {os:Osw} {F Fz:bw} {Z V:Nat} {Lm:Led} {kk:Ant}
theorem mj (l:List Nat):(nm l).length=l.length:=rfl
theorem big:sizeLine=16777216:=rfl
theorem gW {id:String}{args:Args}{b:Builtin}(hb:entryFor table id=some b)(hp:plainId id=true){A:Around}{R:Result→Shared→Prop}{s:Shared}{m:Made}(g:Gives (b args) m)(h:m.post (fun v s'=>R (.ok (.ret v)) s') s):codeAny (model aH w) A (.builtin id args) R s:=j5 hb hp g h
theorem jZ {x y:List Nat}(hl:x.length+y.length≤100000)(hk:aA aH w J dr os F kk):aA aH w J dr os F (dB x y kk):=by
 refine aV (fun _ _ _ _=>rfl) (fun c _ Z V=>?_) hk
 have g:=gives_str_add (nm x) (nm y) (bH c 0) (bH c 1)
 match x,y with
 |[],y=>exact dN (n:=0) fun _ _ _ _ hF _ _ r h=>gW (entryFor_of_fast (by kernel_rfl)) (by decide +kernel) g h
 |a::x,[]=>
  have e:a::x++[]=a::x:=List.append_nil _
  rw[e]
  exact dN (n:=0) fun _ _ _ _ hF _ _ r h=>gW (entryFor_of_fast (by kernel_rfl)) (by decide +kernel) g h
 |a::x,b::y=>
  refine dN (n:=1) fun _ _ s R hF _ _ r h=>gW (entryFor_of_fast (by kernel_rfl)) (by decide +kernel) g ⟨?_,?_⟩
  ·rw[zO,mj,big,List.length_append]
   have:(a::x).length+(b::y).length≤100000:=hl
   lia
  ·rw[zO,r.toks]
   exact(r.toks▸h:R _ {s with toks:=V+1})
theorem o4 {l:List Nat}{c0:Nat}(hl:l.length≤100000)(hk:aA aH w J dr os F kk):aA aH w J dr os F (f9 l c0 kk):=by
 refine aV (fun _ _ _ _=>rfl) (fun c _ Z V=>?_) hk
 have hy:((nm [c0]).length==0)=false:=rfl
 cases h1:(decide ((nm l).length<(nm [c0]).length)||decide (strKind (nm l)<strKind (nm [c0]))) with
 |true=>
  have e1:mO (nm l) (nm [c0]) (bH c 0) V=[(nm l,bH c 0)]:=by unfold mO;rw[if_pos h1]
  have e2:lE (nm l) (nm [c0])=0:=by unfold lE;rw[if_pos h1]
  rw[e1,e2]
  refine lD (n:=0) rfl fun _ _ s R hF _ _ r h=>bj PySem.F.entry_str_split (by decide +kernel) (meets_str_split_cannot_occur (nm l) (nm [c0]) (bH c 0) (bH c 1) h1) ?_
  rw[rI] at h
  exact h
 |false=>
  cases hf:(occurrences (nm l) (nm [c0]) 0 (nm l).length ((nm l).length+1)).isEmpty with
  |true=>
   have e1:mO (nm l) (nm [c0]) (bH c 0) V=[(nm l,bH c 0)]:=by unfold mO;rw[h1,hf];rfl
   have e2:lE (nm l) (nm [c0])=0:=by unfold lE;rw[h1,hf];rfl
   rw[e1,e2]
   refine lD (n:=0) rfl fun _ _ s R hF _ _ r h=>bj PySem.F.entry_str_split (by decide +kernel) (meets_str_split_not_found (nm l) (nm [c0]) (bH c 0) (bH c 1) h1 hy hf) ?_
   rw[rI] at h
   exact h
  |false=>
   have e1:mO (nm l) (nm [c0]) (bH c 0) V=J6 V (partsBetween (nm l) (occurrences (nm l) (nm [c0]) 0 (nm l).length ((nm l).length+1)) (nm [c0]).length):=by unfold mO;rw[h1,hf];rfl
   have e2:lE (nm l) (nm [c0])=(partsBetween (nm l) (occurrences (nm l) (nm [c0]) 0 (nm l).length ((nm l).length+1)) (nm [c0]).length).length:=by unfold lE;rw[h1,hf];rfl
   rw[e1,e2,za]
   refine lD rfl fun _ _ s R hF _ _ r h=>bj PySem.F.entry_str_split (by decide +kernel) (meets_str_split_sep (nm l) (nm [c0]) (bH c 0) (bH c 1) h1 hy hf (by rw[mj,big];lia) ?_) ?_
   ·have:=StrLaws.occ_length_le (nm l) (nm [c0]) 0 (nm l).length ((nm l).length+1)
    rw[length_partsBetween,big]
    rw[mj] at this ⊢
    lia
   ·rw[rI] at h
    rw[r.toks]
    rw[r.toks] at h
    exact h
theorem Ia (lo hi:Option Nat)(n:Nat):strSliceIndices (oI lo) (oI hi) 1 n=(List.range (vZ hi n-uQ lo n)).map (uQ lo n+·):=by
 have e:strSliceIndices (oI lo) (oI hi) 1 n=sliceRange ((uQ lo n:Nat):Int) ((vZ hi n:Nat):Int) 1:=by
  unfold strSliceIndices
  simp only[show(1:Int)>0 by decide,if_true]
  congr 1
  ·cases lo with
   |none=>simp[oI,uQ]
   |some i=>
    simp only[oI,uQ,Option.getD_some]
    have h1:¬((i:Int)<0):=by lia
    rw[if_neg h1]
    lia
  ·cases hi with
   |none=>simp[oI,vZ]
   |some i=>
    simp only[oI,vZ,Option.getD_some]
    have h1:¬((i:Int)<0):=by lia
    rw[if_neg h1]
    lia
 rw[e,sliceRange_one]
theorem Mt (lo hi:Option Nat)(l:List Nat):(⟨((strSliceIndices (oI lo) (oI hi) 1 (nm l).length).filterMap ((nm l).cps[·]?)).toArray⟩:Str)=nm (dX lo hi l):=by
 rw[Ia,pick_run]
 rfl
theorem Oi {m:Nat}{lo hi:Option Nat}{l:List Nat}(hl:l.length≤100000)(hk:aA aH w J dr os F kk):aA aH w J dr os F (pL m lo hi l kk):=by
 refine aV (fun _ _ _ _=>rfl) (fun c g Z V=>?_) hk
 have key:∀(s:Shared) (A:Around) (R:Result→Shared→Prop),s.heap.get? (az g 0)=some (jn (NZ lo (fL (au g 0) 0)) (NZ hi (fL (au g 0) 1)))→
   (sliceMade (nm l) (bH c 0) (O4 (fL (au g 0) 0) lo) (O4 (fL (au g 0) 1) hi) none).post (fun v s'=>R (.ok (.ret v)) s') s→codeAny (model aH w) A (.builtin "str.__getitem__" ⟨[.str (nm l) (bH c 0),.ref (az g 0)],[]⟩) R s:=fun s A R ho h=>by
  refine bj (entryFor_of_fast (by kernel_rfl)) (by decide +kernel) (meets_str_getitem_slice (nm l) (bH c 0) (az g 0) (O4 (fL (au g 0) 0) lo) (O4 (fL (au g 0) 1) hi) none rfl) ⟨⟨_,ho,by show Value.type xG=_;rw[zH],?_⟩,h⟩
  cases lo<;>cases hi<;>rfl
 have e1:slicePicked (nm l) (O4 (fL (au g 0) 0) lo) (O4 (fL (au g 0) 1) hi) none=strSliceIndices (oI lo) (oI hi) 1 (nm l).length:=by
  unfold slicePicked
  cases lo<;>cases hi<;>rfl
 have e2:(strSliceIndices (oI lo) (oI hi) 1 (nm l).length).length=vZ hi l.length-uQ lo l.length:=by
  rw[Ia,List.length_map,List.length_range]
  rfl
 have e3:sliceMade (nm l) (bH c 0) (O4 (fL (au g 0) 0) lo) (O4 (fL (au g 0) 1) hi) none=if((vZ hi l.length-uQ lo l.length)==l.length)=true then Made.val (.str (nm l) (bH c 0)) else .str (nm (dX lo hi l)):=by
  unfold sliceMade
  rw[e1,Mt,e2]
  rfl
 have hb:vZ hi l.length≤l.length:=Nat.min_le_right _ _
 cases hn:Nat.beq (vZ hi l.length-uQ lo l.length) l.length with
 |true=>
  have he:vZ hi l.length-uQ lo l.length=l.length:=Nat.eq_of_beq_eq_true hn
  have h4:dX lo hi l=l:=by
   unfold dX
   rw[he]
   have:uQ lo l.length=0∨l.length=0:=by lia
   rcases this with h|h
   ·rw[h];simp
   ·have:l=[]:=List.length_eq_zero_iff.mp h
    subst this;rfl
  have hT:vN lo hi l (bH c 0) V=bH c 0:=by unfold vN;rw[hn]
  have hK:bA lo hi l V=V+0:=by unfold bA;rw[hn];rfl
  rw[h4,hT,hK]
  refine dN (n:=0) fun _ A s R hF _ _ r h=>key s A R (r.own _ (.head _)) ?_
  rw[e3,he]
  simp only[beq_self_eq_true,if_true]
  exact h
 |false=>
  have hT:vN lo hi l (bH c 0) V=V:=by unfold vN;rw[hn]
  have hK:bA lo hi l V=V+1:=by unfold bA;rw[hn]
  rw[hT,hK]
  refine dN (n:=1) fun _ A s R hF _ _ r h=>key s A R (r.own _ (.head _)) ?_
  have hne:((vZ hi l.length-uQ lo l.length)==l.length)=false:=by
   rw[beq_eq_false_iff_ne]
   intro e
   rw[e,Nat.beq_refl] at hn
   cases hn
  rw[e3,hne]
  refine⟨?_,by rw[r.toks];exact(r.toks▸h:R _ {s with toks:=V+1})⟩
  rw[mj,big]
  unfold dX
  have:=List.length_take_le (vZ hi l.length-uQ lo l.length) (l.drop (uQ lo l.length))
  have h2:=Nat.sub_le (vZ hi l.length) (uQ lo l.length)
  lia
theorem pR {x y d:Int}(h:x-y=d)(hk:aA aH w J dr os F kk):aA aH w J dr os F (gY x y d kk):=
 aV (fun _ _ _ _=>rfl) (fun c _ _ V=>dN (n:=1) fun _ _ s R _ _ _ r z=>gW (entryFor_of_fast (by kernel_rfl)) (by decide +kernel) (h▸gives_int_sub x y (bH c 0) (bH c 1)) (by show R _ _;rw[r.toks];exact(r.toks▸z:R _ {s with toks:=V+1}))) hk
theorem Ot (l:List Nat)(p:Nat→Bool):l.drop (l.takeWhile p).length=l.dropWhile p:=by
 induction l with
 |nil=>rfl
 |cons a l ih=>
  by_cases h:p a=true
  ·rw[List.takeWhile_cons_of_pos h,List.dropWhile_cons_of_pos h]
   exact ih
  ·rw[List.takeWhile_cons_of_neg h,List.dropWhile_cons_of_neg h]
   rfl
theorem Gb (c:Nat):(nm [c]).cps.contains=fun x=>x==c:=by
 funext x
 show(#[c]:Array Nat).contains x=_
 simp[Array.contains]
theorem JL (l:List Nat)(c:Nat):PySem.stripped (nm [c]).cps.contains true false (nm l)=nm (l.dropWhile (·==c)):=by
 unfold PySem.stripped stripLo stripHi
 simp only[if_true,Bool.false_eq_true,if_false]
 apply Str.ext'
 apply Array.toList_inj.mp
 rw[StrLaws.strSub_toList,Gb]
 show(l.drop (l.takeWhile fun x=>x==c).length).take (l.length-(l.takeWhile fun x=>x==c).length)=_
 rw[List.take_of_length_le (by rw[List.length_drop];exact Nat.le_refl _),Ot]
 rfl
theorem Hd {l:List Nat}{c0:Nat}(hl:l.length≤100000)(hk:aA aH w J dr os F kk):aA aH w J dr os F (oA l c0 kk):=by
 refine aV (fun _ _ _ _=>rfl) (fun c _ Z V=>?_) hk
 have g:=gives_str_lstrip_chars (nm l) (nm [c0]) (bH c 0) (bH c 1)
 rw[JL] at g
 cases hn:stripSame (nm [c0]).cps.contains true false (nm l) with
 |true=>
  have hT:TY l c0 (bH c 0) V=bH c 0:=by unfold TY;rw[hn]
  have hK:Wd l c0 V=V+0:=by unfold Wd;rw[hn];rfl
  have h4:l.dropWhile (·==c0)=l:=by
   have h0:((nm l).cps.toList.takeWhile (nm [c0]).cps.contains).length=0:=by
    unfold stripSame stripLo at hn
    simp only[if_true,Bool.and_eq_true,beq_iff_eq] at hn
    exact hn.1
   rw[←Ot,←Gb]
   have h1:(l.takeWhile (nm [c0]).cps.contains).length=0:=h0
   rw[h1]
   rfl
  rw[hT,hK]
  rw[hn] at g
  rw[h4]
  exact dN (n:=0) fun _ A s R hF _ _ r h=>gW PySem.F.entry_str_lstrip (by decide +kernel) g h
 |false=>
  have hT:TY l c0 (bH c 0) V=V:=by unfold TY;rw[hn]
  have hK:Wd l c0 V=V+1:=by unfold Wd;rw[hn]
  rw[hT,hK]
  rw[hn] at g
  refine dN (n:=1) fun _ A s R hF _ _ r h=>gW PySem.F.entry_str_lstrip (by decide +kernel) g ⟨?_,by rw[r.toks];exact(r.toks▸h:R _ {s with toks:=V+1})⟩
  rw[mj,big]
  have:=(List.dropWhile_sublist (fun x=>x==c0) (l:=l)).length_le
  lia
theorem JV {l y:List Nat}{n:Int}(h:((occurrences (nm l) (nm y) 0 (nm l).length ((nm l).length+1)).length:Int)=n)(hk:aA aH w J dr os F kk):aA aH w J dr os F (v6 l y n kk):=
 aV (fun _ _ _ _=>rfl) (fun c _ _ V=>dN (n:=1) fun _ _ s R _ _ _ r z=>gW PySem.F.entry_str_count (by decide +kernel) (h▸gives_str_count (nm l) (nm y) (bH c 0) (bH c 1)) (by show R _ _;rw[r.toks];exact(r.toks▸z:R _ {s with toks:=V+1}))) hk
end
end
section
open PySem.SeqAt
open Builtin Builtin.Str
noncomputable def jH:List (List Nat)→List (List Nat)→Bool
 |[],[]=>true
 |x::l,y::m=>(x==y)&&jH l m
 |_,_=>false
theorem jR:∀{a b:List (List Nat)},jH a b=true↔a=b
 |[],[]=>by simp[jH]
 |[],_::_=>by simp[jH]
 |_::_,[]=>by simp[jH]
 |x::l,y::m=>by
  simp only[jH,Bool.and_eq_true,beq_iff_eq,List.cons.injEq,jR]
theorem xF:∀{a b:List (List Nat)},a.length≠b.length→jH a b=false
 |a,b,h=>by
  cases e:jH a b with
  |false=>rfl
  |true=>exact absurd (congrArg List.length (jR.mp e)) h
noncomputable def tvs (ps:List (List Nat×Nat)):List Value:=ps.map fun p=>.str (nm p.1) p.2
noncomputable def aF (ps:List (List Nat×Nat)):List (List Nat):=ps.map (·.1)
theorem yH (ps:List (List Nat×Nat)):tvs ps=strValues (ps.map fun p=>(nm p.1,p.2)):=by
 unfold tvs strValues
 rw[List.map_map]
 rfl
theorem ug:∀(l m:List (List Nat)) (h:l.length=m.length),(List.range l.length).all (fun j=>(l[j]?.getD [])==(m[j]?.getD []))=jH l m
 |[],[],_=>rfl
 |[],_::_,h=>by cases h
 |_::_,[],h=>by cases h
 |x::l,y::m,h=>by
  have h':l.length=m.length:=by simpa using h
  rw[List.length_cons,List.range_succ_eq_map,List.all_cons,List.all_map]
  have ih:=ug l m h'
  show((x==y)&&_)=((x==y)&&jH l m)
  rw[←ih]
  rfl
section
variable {w:World} {J:Array GenState} {dr:Drawn} {os:Osw} {F Fz:bw} {Z V:Nat} {Lm:Led} {kk:Ant}
theorem wV {A:Around}{s:Shared}{ps qs:List (List Nat×Nat)}(j:Nat)(h1:j<(⟨tvs ps⟩:Array Value).size)(h2:j<(⟨tvs qs⟩:Array Value).size):
  EqAt A s (⟨tvs ps⟩:Array Value)[j] (⟨tvs qs⟩:Array Value)[j] (((aF ps)[j]?.getD [])==((aF qs)[j]?.getD [])):=by
 have l1:j<ps.length:=by
  have:(⟨tvs ps⟩:Array Value).size=ps.length:=by show(tvs ps).length=_;unfold tvs;rw[List.length_map]
  lia
 have l2:j<qs.length:=by
  have:(⟨tvs qs⟩:Array Value).size=qs.length:=by show(tvs qs).length=_;unfold tvs;rw[List.length_map]
  lia
 have e1:(⟨tvs ps⟩:Array Value)[j]=.str (nm ps[j].1) ps[j].2:=by simp[tvs]
 have e2:(⟨tvs qs⟩:Array Value)[j]=.str (nm qs[j].1) qs[j].2:=by simp[tvs]
 have e3:(aF ps)[j]?.getD []=ps[j].1:=by simp[aF,l1]
 have e4:(aF qs)[j]?.getD []=qs[j].1:=by simp[aF,l2]
 rw[e1,e2,e3,e4]
 exact(SeqRoads2.EqGives.str (nm ps[j].1) (nm qs[j].1) _ _).at A s
theorem fY (ps:List (List Nat×Nat)):(⟨tvs ps⟩:Array Value).size=(aF ps).length:=by
 show(tvs ps).length=_
 unfold tvs aF
 rw[List.length_map,List.length_map]
theorem Ks {l b ep ep2:Nat}{ps qs:List (List Nat×Nat)}{A:Around}{R:Result→Shared→Prop}{s:Shared}(hl:s.heap.get? l=some (aa ep (tvs ps)))(hb:s.heap.get? b=some (aa ep2 (tvs qs)))(h:R (.ok (.ret (.bool (jH (aF ps) (aF qs))))) s):
  codeAny (model aH w) A (.builtin "list.__eq__" ⟨[.ref l,.ref b],[]⟩) R s:=by
 rw[jb] at hl hb
 by_cases hn:(aF ps).length=(aF qs).length
 ·refine bj PySem.F.entry_list_eq (by decide +kernel) (list_eqAt l b ⟨tvs ps⟩ ⟨tvs qs⟩ ep ep2 none none #[] #[] (by rw[fY,fY];exact hn) fun j=>((aF ps)[j]?.getD [])==((aF qs)[j]?.getD [])) ⟨hl,hb,fun j h1 h2=>wV j h1 h2,?_⟩
  rw[fY,ug _ _ hn]
  exact h
 ·refine bj PySem.F.entry_list_eq (by decide +kernel) (list_eq_lengthsAt l b ⟨tvs ps⟩ ⟨tvs qs⟩ ep ep2 none none #[] #[] (by rw[fY,fY];simpa using hn)) ⟨hl,hb,?_⟩
  rw[xF hn] at h
  exact h
theorem Ju {l b ep ep2:Nat}{ps qs:List (List Nat×Nat)}{A:Around}{R:Result→Shared→Prop}{s:Shared}(hl:s.heap.get? l=some (aa ep (tvs ps)))(hb:s.heap.get? b=some (aa ep2 (tvs qs)))(h:R (.ok (.ret (.bool (!(jH (aF ps) (aF qs)))))) s):
  codeAny (model aH w) A (.builtin "list.__ne__" ⟨[.ref l,.ref b],[]⟩) R s:=by
 rw[jb] at hl hb
 by_cases hn:(aF ps).length=(aF qs).length
 ·refine bj PySem.F.entry_list_ne (by decide +kernel) (list_neAt l b ⟨tvs ps⟩ ⟨tvs qs⟩ ep ep2 none none #[] #[] (by rw[fY,fY];exact hn) fun j=>((aF ps)[j]?.getD [])==((aF qs)[j]?.getD [])) ⟨hl,hb,fun j h1 h2=>wV j h1 h2,?_⟩
  rw[fY,ug _ _ hn]
  exact h
 ·refine bj PySem.F.entry_list_ne (by decide +kernel) (list_ne_lengthsAt l b ⟨tvs ps⟩ ⟨tvs qs⟩ ep ep2 none none #[] #[] (by rw[fY,fY];simpa using hn)) ⟨hl,hb,?_⟩
  rw[xF hn] at h
  exact h
noncomputable def pg (m:Nat)(Lm:Led→Led)(l b:Nat)(r:Bool):An:=fun kk=>.cons m (fun _ g Z V=>lJ (.builtin "list.__eq__" ⟨[.ref l,.ref b],[]⟩) (Lm g) (.bool r) Z (V+0)) fun _ _ _ _=>kk
noncomputable def qR (m:Nat)(Lm:Led→Led)(l b:Nat)(r:Bool):An:=fun kk=>.cons m (fun _ g Z V=>lJ (.builtin "list.__ne__" ⟨[.ref l,.ref b],[]⟩) (Lm g) (.bool r) Z (V+0)) fun _ _ _ _=>kk
theorem lF {m l b:Nat}{Lm:Led→Led}{r:Bool}{ts us:List (List Nat)}(hl:∀g,∃ep ps,aF ps=ts∧Src F (Lm g) l (aa ep (tvs ps)))(hb:∀g,∃ep ps,aF ps=us∧Src F (Lm g) b (aa ep (tvs ps)))(hr:jH ts us=r)(hk:aA aH w J dr os F kk):aA aH w J dr os F (pg m Lm l b r kk):=
 aV (fun _ _ _ _=>rfl) (fun _ g _ _=>dN (n:=0) fun _ _ _ _ hF _ _ rl h=>by
  refine b7 (hl g) fun ep ps er1 h1=>?_;subst er1
  refine b7 (hb g) fun ep2 qs er2 h2=>?_;subst er2
  exact Ks (h1.get hF rl) (h2.get hF rl) (by rw[hr];exact h)) hk
theorem uT {m l b:Nat}{Lm:Led→Led}{r:Bool}{ts us:List (List Nat)}(hl:∀g,∃ep ps,aF ps=ts∧Src F (Lm g) l (aa ep (tvs ps)))(hb:∀g,∃ep ps,aF ps=us∧Src F (Lm g) b (aa ep (tvs ps)))(hr:(!(jH ts us))=r)(hk:aA aH w J dr os F kk):aA aH w J dr os F (qR m Lm l b r kk):=
 aV (fun _ _ _ _=>rfl) (fun _ g _ _=>dN (n:=0) fun _ _ _ _ hF _ _ rl h=>by
  refine b7 (hl g) fun ep ps er3 h1=>?_;subst er3
  refine b7 (hb g) fun ep2 qs er4 h2=>?_;subst er4
  exact Ju (h1.get hF rl) (h2.get hF rl) (by rw[hr];exact h)) hk
noncomputable def qy (m:Nat)(Lm:Led→Led)(l:Led→Nat)(n:Int)(v:Led→Value)(k:Nat):An:=fun kk=>.cons m (fun c g Z V=>xR (.builtin "list.__mul__" ⟨[.ref (l g),.int n (bH c 1)],[]⟩) (Lm g) (aa 0 (List.replicate k (v g))) Z (V+0)) fun _ _ _ _=>kk
theorem Bq (v:Value):∀(n:Nat) (a:Array Value),List.foldl (fun x1 x2=>x1++x2) a (List.replicate n (⟨[v]⟩:Array Value))=a++(⟨List.replicate n v⟩:Array Value)
 |0,a=>by simp
 |n+1,a=>by
  rw[List.replicate_succ,List.foldl_cons,Bq v n]
  apply Array.toList_inj.mp
  simp[List.replicate_succ]
theorem Fo {m k:Nat}{n:Int}{l:Led→Nat}{Lm:Led→Led}{v:Led→Value}(hs:∀g,∃ep,Src F (Lm g) (l g) (aa ep [v g]))(hn:n=(k:Int))(hk1:k≤100000)(hk:aA aH w J dr os F kk):aA aH w J dr os F (qy m Lm l n v k kk):=
 aV (fun _ _ _ _=>rfl) (fun c g _ _=>lD (n:=0) rfl fun _ _ _ _ hF _ _ r h=>by
  obtain⟨ep,h1⟩:=hs g
  have hnt:n.toNat=k:=by lia
  have hfit:Builtin.List.listFitsIndex n=true:=fitsIndex_of (by lia) (by have e:(2:Int) ^ 63=9223372036854775808:=rfl;rw[e];lia)
  refine bj PySem.F.entry_list_mul (by decide +kernel) (AutoListH.list___mul___list_int_3 (l g) ⟨[v g]⟩ ep n (bH c 1) (by simp[hfit]) ?_ ?_) ⟨h1.is hF r,?_⟩
  ·have:(⟨[v g]⟩:Array Value).size=1:=rfl
   rw[this,hnt]
   lia
  ·have:(⟨[v g]⟩:Array Value).size=1:=rfl
   rw[this,hnt]
   have h2:Builtin.List.listTooLong (1*k)=false:=by
    unfold Builtin.List.listTooLong
    have:=big
    exact decide_eq_false (by lia)
   rw[h2]
   decide
  ·rw[rI] at h
   have e:(⟨[v g]⟩:Array Value).isEmpty=false:=rfl
   rw[e]
   simp only[Bool.false_eq_true,if_false]
   rw[Bq,hnt]
   simpa using h) hk
noncomputable def fc (x y d:Int):An:=fun kk=>.cons 0 (fun c _ Z V=>lJ (.builtin "int.__mod__" ⟨[.int x (bH c 0),.int y (bH c 1)],[]⟩) [] (.int d V) Z (V+1)) fun _ _ _ _=>kk
theorem dM {x y d:Int}(hy:y≠0)(h:x.fmod y=d)(hk:aA aH w J dr os F kk):aA aH w J dr os F (fc x y d kk):=
 aV (fun _ _ _ _=>rfl) (fun c _ _ V=>dN (n:=1) fun _ A s R _ _ _ r z=>fC PySem.F.entry_int_mod (by decide +kernel) (by
  have hb':(y==0)=false:=by simpa using hy
  show wpAny _ _ (do
   if y==0 then rule "int.mod.zero";raiseError "ZeroDivisionError" "integer modulo by zero"
   ret (←mkInt (x.fmod y))) _ _ s
  simp only[hb',Bool.false_eq_true,if_false,pure_bind]
  refine wpAny_bind (wpAny_mkInt (wpAny_pure ⟨_,rfl,?_⟩))
  rw[h,r.toks]
  exact(r.toks▸z:R _ {s with toks:=V+1}))) hk
noncomputable def uO (m t a b x:Nat)(La:Led→Led)(r:Bool):An:=fun kk=>.cons m (fun _ g Z V=>lJ (.builtin "tuple.__contains__" ⟨[.ref t,.ref x],[]⟩) (La g) (.bool r) Z (V+0)) fun _ _ _ _=>kk
theorem qO {m t a b x:Nat}{La:Led→Led}{r:Bool}{ta tb tx:List (List Nat)}(ht:∀g,(t,iY [.ref a,.ref b])∈La g)(ha:∀g,∃ep ps,aF ps=ta∧(a,aa ep (tvs ps))∈La g)(hb:∀g,∃ep ps,aF ps=tb∧(b,aa ep (tvs ps))∈La g)(hx:∃ep ps,aF ps=tx∧F x (aa ep (tvs ps)))(hr:(jH ta tx||jH tb tx)=r)(hk:aA aH w J dr os F kk):aA aH w J dr os F (uO m t a b x La r kk):=
 aV (fun _ _ _ _=>rfl) (fun _ g _ _=>dN (n:=0) fun Fz A s R hF hU _ rl h=>by
  refine b7 (ha g) fun epa pa er5 h1=>?_;subst er5
  refine b7 (hb g) fun epb pb er6 h2=>?_;subst er6
  refine b7 hx fun epx px er0 h3=>?_;subst er0
  have hfx:=hF _ _ h3
  have nea:a≠x:=fun e=>rl.apart _ h1 _ (by rw[e];exact hfx)
  have neb:b≠x:=fun e=>rl.apart _ h2 _ (by rw[e];exact hfx)
  have ga:=rl.own _ h1
  have gb:=rl.own _ h2
  have gx:=rl.keep _ _ hfx
  simp only at ga gb
  rw[jb] at ga gb gx
  have lx:s.heap.IsList x ⟨tvs px⟩:=⟨_,gx,rfl,_,rfl⟩
  have key:∀(y:Addr) (ep:Nat) (ps:List (List Nat×Nat)),y≠x→s.heap.get? y=some {cls:=.type "list",dict:=none,data:=.seq ⟨tvs ps⟩ ep,slots:=#[]}→EqAt A.in1 s (.ref y) (.ref x) (jH (aF ps) (aF px)):=fun y ep ps hne gy=>by
   refine EqAt.of_refs hne ?_
   have ly:s.heap.IsList y ⟨tvs ps⟩:=⟨_,gy,rfl,_,rfl⟩
   have hu:A.in1.units<cLine:=by
    have:cLine=9900:=rfl
    show A.units+1<_
    lia
   by_cases hn:(aF ps).length=(aF px).length
   ·have:=RcAt.lists (A:=A.in1) (e:=fun j=>((aF ps)[j]?.getD [])==((aF px)[j]?.getD [])) ly lx (by rw[fY,fY];exact hn) hu fun j h1 h2=>wV j h1 h2
    rw[fY,ug _ _ hn] at this
    exact this
   ·rw[xF hn]
    exact RcAt.lists_lengths ly lx (by rw[fY,fY];simpa using hn) hu
  have gt:=rl.own _ (ht g)
  have et:iY [.ref a,.ref b]={cls:=.type "tuple",dict:=none,data:=.seq ⟨[.ref a,.ref b]⟩ 0,slots:=#[]}:=by
   unfold iY
   rw[Du]
  simp only at gt
  rw[et] at gt
  refine bj PySem.F.entry_tuple_contains (by decide +kernel) (tuple_containsAt t ⟨[.ref a,.ref b]⟩ 0 none #[] (.ref x) fun v=>match v with
   |.ref y=>if y=a then jH (aF pa) (aF px) else jH (aF pb) (aF px)
   |_=>false) ⟨gt,?_,?_⟩
  ·intro y hy
   simp only[List.mem_toArray,List.mem_cons,List.not_mem_nil,or_false] at hy
   by_cases hab:b=a
   ·subst hab
    have e2:jH (aF pa) (aF px)=jH (aF pb) (aF px):=by
     have e3:aa epa (tvs pa)=aa epb (tvs pb):=by
      rw[jb,jb]
      exact Option.some.inj (ga.symm.trans gb)
     have e4:tvs pa=tvs pb:=by
      have:=congrArg (fun o:Obj=>match o.data with|.seq vs _=>vs.toList|_=>[]) e3
      exact this
     have e5:aF pa=aF pb:=by
      have:=congrArg (List.map fun v:Value=>match v with|.str z _=>z.cps.toList|_=>[]) e4
      unfold tvs at this
      rw[List.map_map,List.map_map] at this
      exact this
     rw[e5]
    rcases hy with rfl|rfl
    ·simp only[if_true];exact key _ _ _ nea ga
    ·simp only[if_true];exact key _ _ _ nea ga
   ·rcases hy with rfl|rfl
    ·simp only[if_true];exact key _ _ _ nea ga
    ·simp only[if_neg hab];exact key _ _ _ neb gb
  ·have:((⟨[Value.ref a,Value.ref b]⟩:Array Value).any fun v=>match v with
     |.ref y=>if y=a then jH (aF pa) (aF px) else jH (aF pb) (aF px)
     |_=>false)=r:=by
    rw[←hr]
    by_cases hab:b=a
    ·subst hab
     have e3:aa epa (tvs pa)=aa epb (tvs pb):=by
      rw[jb,jb]
      exact Option.some.inj (ga.symm.trans gb)
     have e4:tvs pa=tvs pb:=congrArg (fun o:Obj=>match o.data with|.seq vs _=>vs.toList|_=>[]) e3
     have e5:aF pa=aF pb:=by
      have:=congrArg (List.map fun v:Value=>match v with|.str z _=>z.cps.toList|_=>[]) e4
      unfold tvs at this
      rw[List.map_map,List.map_map] at this
      exact this
     simp[e5]
    ·simp[hab]
   rw[this]
   exact h) hk
noncomputable def YQ (a b c:Value):Obj:=⟨.type "range",none,.fields ⟨[a,b,c]⟩,#[]⟩
noncomputable def j8 (x left:Int):Obj:=⟨.type "range_iterator",none,.fields ⟨[.int x 0,.int left 0,.int (-1) 0]⟩,#[]⟩
noncomputable def Pn (a:Int):An:=fun kk=>.cons 0 (fun c _ Z V=>xR (.builtin "range.__new__" ⟨[.type "range",.int a (bH c 1),.int (-1) (bH c 2),.int (-1) (bH c 3)],[]⟩) [] (YQ (.int a (bH c 1)) (.int (-1) (bH c 2)) (.int (-1) (bH c 3))) Z (V+0)) fun _ _ _ _=>kk
noncomputable def Ol (m:Nat)(a:Int):An:=fun kk=>.cons m (fun _ g Z V=>xR (.builtin "range.__iter__" ⟨[.ref (az g 0)],[]⟩) [(az g 0,YQ (.int a (fL (au g 0) 0)) (.int (-1) (fL (au g 0) 1)) (.int (-1) (fL (au g 0) 2)))] (j8 a (a+1)) Z (V+0)) fun _ _ _ _=>kk
theorem Ry {a:Int}(h0:-1≤a)(h1:a≤100000)(hk:aA aH w J dr os F kk):aA aH w J dr os F (Pn a kk):=
 aV (fun _ _ _ _=>rfl) (fun c _ _ V=>lD (n:=0) rfl fun _ A s R _ _ _ r z=>bj (entryFor_of_fast (by kernel_rfl)) (by decide +kernel) (AutoRange.range___new___type_int_int_int_1 a (-1) (-1) (bH c 1) (bH c 2) (bH c 3) (by rw[isSubtype_type];kernel_rfl) (by decide)) ⟨rfl,z⟩) hk
theorem PX {m:Nat}{a:Int}(h0:-1≤a)(h1:a≤100000)(hk:aA aH w J dr os F kk):aA aH w J dr os F (Ol m a kk):=by
 refine aV (fun _ _ _ _=>rfl) (fun c g _ V=>lD (n:=0) rfl fun _ A s R _ _ _ r z=>?_) hk
 have hsz:Builtin.Range.rangeSize a (-1) (-1)=a+1:=by
  unfold Builtin.Range.rangeSize
  rw[if_neg (by decide)]
  by_cases h:a > -1
  ·rw[if_pos h]
   have:(a - -1-1)/(- -1)+1=a+1:=by
    have e:(- -1:Int)=1:=rfl
    rw[e,Int.ediv_one]
    lia
   exact this
  ·rw[if_neg h]
   lia
 have hc:(Builtin.Range.rangeFitsLong a&&Builtin.Range.rangeFitsLong (-1)&&Builtin.Range.rangeFitsLong (-1)&&Builtin.Range.rangeFitsLong (Builtin.Range.rangeSize a (-1) (-1))&&(Builtin.Range.rangeSize a (-1) (-1)==0||if(-1:Int)>0 then Builtin.Range.rangeFitsLong (-1+(-1-1)) else Builtin.Range.rangeFitsLong (-1+(-1+1))))=true:=by
  rw[hsz,if_neg (by decide)]
  unfold Builtin.Range.rangeFitsLong
  simp only[Bool.and_eq_true,Bool.or_eq_true,decide_eq_true_eq,beq_iff_eq]
  lia
 refine bj (entryFor_of_fast (by kernel_rfl)) (by decide +kernel) (AutoRange.range___iter___range_1 (az g 0) a (-1) (-1) (fL (au g 0) 0) (fL (au g 0) 1) (fL (au g 0) 2) ?_) ⟨r.own _ (.head _),?_⟩
 ·rw[hc];decide
 ·rw[hc,hsz]
  exact z
noncomputable def jQ (m it:Nat)(x left:Int):An:=fun kk=>.cons m (fun _ _ Z V=>⟨.builtin "range_iterator.__next__" ⟨[.ref it],[]⟩,950,[(it,j8 x left)],.ok (.ret (.int x V)),[j8 (x-1) (left-1)],[],cQ,[],Z,V+1⟩) fun _ _ _ _=>kk
theorem Qw {m it:Nat}{x left:Int}(h:0<left)(hk:aA aH w J dr os F kk):aA aH w J dr os F (jQ m it x left kk):=by
 refine aV (fun _ _ _ _=>rfl) (fun c _ Z V=>⟨fun _ _ h=>h.elim,fun _ h=>(nomatch h),fun Fz hF A _ hU hh s r=>?_⟩) hk
 show codeAny _ A (.builtin "range_iterator.__next__" ⟨[.ref it],[]⟩) (fun r' s'=>r'=.ok (.ret (.int x V))∧Rel (aj Fz (fun _ _=>False)) J dr os [(it,j8 (x-1) (left-1))] Z (V+1) s') s
 rw[bJ]
 refine bj (entryFor_of_fast (by kernel_rfl)) (by decide +kernel) (AutoRange.range_iterator___next___range_iterator_1 it x left (-1) (by lia)) ⟨r.own _ (.head _),by rw[r.toks],?_⟩
 have r1:=r.upd (i:=0) (p:=(it,j8 x left)) (f:=Obj.mapFields fun y=>y.setIfInBounds 0 (rawInt (x+-1))) rfl rfl
 have r2:=r1.upd (i:=0) (p:=(it,(j8 x left).mapFields fun y=>y.setIfInBounds 0 (rawInt (x+-1)))) (f:=Obj.mapFields fun y=>y.setIfInBounds 1 (rawInt (left-1))) rfl rfl
 exact r2.fresh 1
noncomputable def O1 (m it:Nat)(x:Int):An:=fun kk=>.cons m (fun _ _ Z V=>⟨.builtin "range_iterator.__next__" ⟨[.ref it],[]⟩,950,[(it,j8 x 0)],.error (.ref (Z+1)),[j8 x 0],[(Z+1,cN lK (.ref Z) .none)],cQ,[],Z+2,V⟩) fun _ _ _ _=>kk
theorem RQ {m it:Nat}{x:Int}(hk:aA aH w J dr os F kk):aA aH w J dr os F (O1 m it x kk):=by
 refine aV (fun _ _ _ _=>rfl) (fun c _ Z V=>⟨fun _ _ h=>h.elim,fun _ h=>(nomatch h),fun Fz hF A _ hU hh s r=>?_⟩) hk
 show codeAny _ A (.builtin "range_iterator.__next__" ⟨[.ref it],[]⟩) (fun r' s'=>r'=.error (.ref (Z+1))∧Rel (aj Fz (fun _ _=>False)) J dr os ([(it,j8 x 0)]++[(Z+1,cN lK (.ref Z) .none)]) (Z+2) V s') s
 rw[bJ]
 have ho:=r.own _ (.head _)
 have hd:(j8 x 0).data=.fields #[.int x 0,.int 0 0,.int (-1) 0]:=rfl
 refine fC (b:=Builtin.«range_iterator.__next__») (entryFor_of_fast (by kernel_rfl)) (by decide +kernel) ?_
 refine wpAny_bind (m:=field (.ref it) 0) (wpAny_field ho hd (x:=.int x 0) rfl ?_)
 refine wpAny_bind (m:=field (.ref it) 1) (wpAny_field ho hd (x:=.int 0 0) rfl ?_)
 refine wpAny_bind (m:=field (.ref it) 2) (wpAny_field ho hd (x:=.int (-1) 0) rfl ?_)
 refine wpAny_bind (m:=rule "range_iterator.__next__.end") (wpAny_rule ?_)
 refine wpAny_bind (m:=Builtin.SmallTypes.stopIteration) ?_
 unfold Builtin.SmallTypes.stopIteration
 refine wpAny_bind ?_
 simp only[newExc,newTuple]
 refine wpAny_bind (wpAny_newObj_type ?_ (by size_fits))
 refine wpAny_bind (m:=firstArgMember _ _) (wpAny_of_eq (a:=Value.none) (by first|rfl|(simp only[firstArgMember];rfl)) ?_)
 refine wpAny_newObj_type ?_ (by size_fits)
 simp only[raiseNew]
 refine wpAny_bind (wpAny_handled ?_)
 rw[show A.in1.handled=none from hh]
 refine wpAny_bind (wpAny_pure (wpAny_throw ?_))
 refine⟨?_,?_⟩
 ·rw[Heap.size_push,r.size]
 ·have:=xr r
  exact this
end
end
section
open Builtin Builtin.Str
noncomputable def jT:List (List Nat×Nat)→Nat→Nat
 |[p],_=>p.2
 |_,V=>V
noncomputable def jK:List (List Nat×Nat)→Nat→Nat
 |[_],V=>V
 |_,V=>V+1
noncomputable def cR (sep:List Nat)(T:List (List Nat)):Nat:=(T.map fun x=>x.length+sep.length).sum
theorem fj (sep:List Nat):∀T,(ao sep T).length≤cR sep T
 |[]=>Nat.le_refl _
 |[x]=>by
  show x.length≤(x.length+sep.length)+0
  lia
 |x::y::r=>by
  have ih:=fj sep (y::r)
  show(x++sep++ao sep (y::r)).length≤(x.length+sep.length)+cR sep (y::r)
  rw[List.length_append,List.length_append]
  lia
theorem yX (sep:List Nat):∀(T:List (List Nat)) (a:Nat),List.foldl (fun(n:Nat) (x:Str)=>n+x.length+(nm sep).length) a (T.map nm)=a+cR sep T
 |[],a=>rfl
 |x::r,a=>by
  rw[List.map_cons,List.foldl_cons,yX sep r]
  show a+x.length+sep.length+cR sep r=a+((x.length+sep.length)+cR sep r)
  lia
noncomputable def bU (v:Value):Obj:=⟨.type "cell",none,.cell (some v),#[]⟩
noncomputable def dF (m:Nat)(Lm:Led)(sep:List Nat)(l:Nat)(ps:List (List Nat×Nat)):An:=fun kk=>.cons m (fun c _ Z V=>lJ (.builtin "str.join" ⟨[.str (nm sep) (bH c 0),.ref l],[]⟩) Lm (.str (nm (ao sep (aF ps))) (jT ps V)) Z (jK ps V)) fun _ _ _ _=>kk
section
variable {w:World} {J:Array GenState} {dr:Drawn} {os:Osw} {F Fz G:bw} {Z V:Nat} {Lm:Led} {kk:Ant}
theorem lL {m l ep:Nat}{sep:List Nat}{ps:List (List Nat×Nat)}(hs:Src F Lm l (aa ep (tvs ps)))(hz:cR sep (aF ps)≤100000)(hk:aA aH w J dr os F kk):aA aH w J dr os F (dF m Lm sep l ps kk):=by
 refine aV (fun _ _ _ _=>rfl) (fun c _ Z V=>?_) hk
 have efst:(ps.map fun p=>(nm p.1,p.2)).map (·.1)=(aF ps).map nm:=by
  unfold aF
  rw[List.map_map,List.map_map]
  rfl
 have hg:glued (nm sep) ((ps.map fun p=>(nm p.1,p.2)).map (·.1))=nm (ao sep (aF ps)):=by rw[efst,J2]
 have h1:tooLong (((ps.map fun p=>(nm p.1,p.2)).map (·.1)).toArray.foldl (·+·.length+(nm sep).length) 0)=false:=by
  rw[List.foldl_toArray,efst,yX]
  unfold tooLong
  have:=big
  exact decide_eq_false (by lia)
 have h2:(nm (ao sep (aF ps))).length≤sizeLine:=by
  have:=fj sep (aF ps)
  rw[mj,big]
  lia
 have key:∀(Fz:bw) (s:Shared) (A:Around) (R:Result→Shared→Prop),Sub F Fz→Rel Fz J dr os Lm Z V s→(joinMade (nm sep) (ps.map fun p=>(nm p.1,p.2))).post (fun v s'=>R (.ok (.ret v)) s') s→codeAny (model aH w) A (.builtin "str.join" ⟨[.str (nm sep) (bH c 0),.ref l],[]⟩) R s:=fun Fz s A R hF r h=>by
  refine bj (entryFor_of_fast (by kernel_rfl)) (by decide +kernel) (meets_str_join_list (nm sep) (bH c 0) l (ps.map fun p=>(nm p.1,p.2)) h1) ⟨?_,h⟩
  have:=hs.isL hF r
  rw[yH] at this
  exact this
 rcases ps with _|⟨p,_|⟨q,rest⟩⟩
 ·refine dN (n:=1) fun Fz A s R hF _ _ r h=>key Fz s A R hF r ⟨h2,?_⟩
  show R _ _
  rw[r.toks]
  exact(r.toks▸h:R _ {s with toks:=V+1})
 ·exact dN (n:=0) fun Fz A s R hF _ _ r h=>key Fz s A R hF r h
 ·refine dN (n:=1) fun Fz A s R hF _ _ r h=>key Fz s A R hF r ⟨?_,?_⟩
  ·exact hg▸h2
  ·have h':R (.ok (.ret (.str (glued (nm sep) (((p::q::rest).map fun p=>(nm p.1,p.2)).map (·.1))) s.toks))) {s with toks:=s.toks+1}:=by
    rw[hg,r.toks]
    exact(r.toks▸h:R _ {s with toks:=V+1})
   exact h'
theorem Bg {c:Code}{lim:Nat}{led:Led}{r:Result}{objs:List Obj}{X:bw}{Z' V':Nat}{p:Addr×Obj}(h:bu aH w J dr os (aj F (bG [p])) ⟨c,lim,led,r,objs,[],X,[],Z',V'⟩ Z V):bu aH w J dr os F ⟨c,lim,p::led,r,p.2::objs,[],X,[],Z',V'⟩ Z V:=by
 refine aK h fun h1 h2 h3=>?_
 refine⟨h1,h2,fun Fz hF=>?_⟩
 exact jO.thaw (h3 (aj Fz (bG [p])) (Sub.mono hF)) h1
theorem bu.mono' {x:Ans}(h:bu aH w J dr os F x Z V)(hF:Sub F G):bu aH w J dr os G x Z V:=⟨h.1,h.2.1,fun Fz hz=>h.2.2 Fz (hF.trans hz)⟩
end
end
section
noncomputable def j0 (F:bw)(v:Value)(ts:List (List Nat)):Prop:=∃a ep ps,v=.ref a∧F a (aa ep (tvs ps))∧aF ps=ts
theorem j0.mono {F G:bw}{v:Value}{ts:List (List Nat)}(h:Sub F G):j0 F v ts→j0 G v ts:=fun ⟨a,ep,ps,h1,h2,h3⟩=>⟨a,ep,ps,h1,h _ _ h2,h3⟩
noncomputable def yC (v:Value)(l:List Nat):Prop:=∃t,v=.str (nm l) t
theorem d7 {δ:Type}:∀{ds:List δ} {vs:List Value} {f:δ→List Nat},All2 (fun l v=>yC v (f l)) ds vs→∃ps,vs=tvs ps∧aF ps=ds.map f
 |_,_,_,.nil=>⟨[],rfl,rfl⟩
 |l::_,_,f,.cons ⟨t,h⟩ r=>by
  refine aL (d7 r) fun ps h1 h2=>?_
  exact⟨(f l,t)::ps,by rw[h,h1];rfl,by show f l::aF ps=_;rw[h2];rfl⟩
structure CompOut where
 kd:Hk
 ep:Nat
 vs:List Value
 X:bw
 Z:Nat
 V:Nat
noncomputable def cC (lim:Nat)(c:Code)(nm:Str)(d it l acc n:Nat)(cur:Option Value)(o:CompOut):Ans:=⟨c,lim,[(it,cz l 0),(acc,aa 0 []),(d,bQ nm (fun _=>(0,0)) none)],.ok .next,[jo n,aa o.ep o.vs,bQ nm o.kd cur],[],o.X,[],o.Z,o.V⟩
section
variable {w:World} {J:Array GenState} {dr:Drawn} {os:Osw}
theorem gh {δ:Type}{lim:Nat}{nm:Str}{e:Expr}{env:Env}{d it acc l:Nat}{xs:List Value}{ds:List δ}{In:Value→δ→Prop}{Fn:bw}(hlc:Gw (dK e env it acc)=some (it,cI e env it acc))(hx:All2 In xs ds)(hn:xs.length≤50000){Out:δ→Value→bw→Prop}(hmono:∀x v F G,Sub F G→Out x v F→Out x v G)(turn:∀i x dd cur ep vs Fr Z V,xs[i]?=some x→In x dd→vs.length≤50000→Sub Fn Fr→∃v ep' X Z' V',Z≤Z'∧aW X Z∧Out dd v (aj Fr X)∧∀k,∃k',∀Fz,Sub Fr Fz→jm w J dr os lim (cI e env it acc) Fz (uw nm d it acc l k cur i ep vs) Z V (cI e env it acc) (aj Fz X) (uw nm d it acc l k' (some x) (i+1) ep' (vs++[v])) Z' V')(fin:∀cur ep vs Fr Z V,Sub Fn Fr→∃Z' V',Z≤Z'∧∀k,∀Fz,Sub Fr Fz→jO aH w J dr os lim (cI e env it acc) Fz (uw nm d it acc l k cur xs.length ep vs) Z V (.ok .next) Fz [(d,bQ nm k cur),(it,jo xs.length),(acc,aa ep vs)] Z' V')(Z V:Nat):
  ∃(cur:Option Value) (o:CompOut),((xs=[]∧cur=none)∨(xs≠[]∧∃v,cur=some v))∧Z≤o.Z∧aW o.X Z∧All2 (fun x v=>Out x v (aj Fn o.X)) ds o.vs∧bu aH w J dr os Fn (cC lim (dK e env it acc) nm d it l acc xs.length cur o) Z V:=by
 refine yo (kW (w:=w) (J:=J) (dr:=dr) (os:=os) hx hn hmono turn fin Z V) fun cur kd ep vs X Z' V' h0 h1 h2 h3 h4=>?_
 refine⟨cur,⟨kd,ep,vs,X,Z',V'⟩,h0,h1,h2,h3,h2,fun _ h=>(nomatch h),fun Fz hz=>?_⟩
 have p3:∀{α:Type} (a b c:α),[b,c,a].Perm [a,b,c]:=fun a b c=>List.perm_append_comm (l₁:=[b,c]) (l₂:=[a])
 exact(zm (l:=l) (i:=0) hlc (.tail _ (.head _)) (h4 Fz hz)).perm' (p3 _ _ _) (p3 _ _ _).symm
theorem cP {lim:Nat}{nm:Str}{c:Code}{d it acc l n ep epl:Nat}{xs vs:List Value}{Fz Fr Fn:bw}{cur:Option Value}{k:Hk}{Z V nn h:Nat}(hl:Fn l (aa epl xs))(hkt:Sub (KF w.params) Fn)(hF:Sub Fn Fr)(hz:Sub Fr Fz)(hn:n=xs.length)(f:Fa (run w.params lim nn h c (uw nm d it acc l k cur n ep vs) Z V [] (gU it l n .nil)) 7 (.done .next) (fun _=>[(d,bQ nm k cur),(it,jo n),(acc,aa ep vs)]++[]) (Z+2) (V+0)):
  jO aH w J dr os lim c Fz (uw nm d it acc l k cur n ep vs) Z V (.ok .next) Fz [(d,bQ nm k cur),(it,jo n),(acc,aa ep vs)] (Z+2) V:=by
 have hF2:=hF.trans hz
 refine dh f.ex fun R hR H hs ht=>?_
 refine(iz (F:=Fz) (X:=fun _ _=>False) hR H hs ht (Sub.no _) (fun a o q=>hF2 _ _ (hkt a o q)) (fun _ q=>(nomatch q)) (Rz (hF2 _ _ hl) (by rw[hn];exact List.getElem?_eq_none (Nat.le_refl _)) trivial)).post fun s r=>?_
 exact r.anti (Sub.orL _ _)
end
end
noncomputable def gP:Str:=nm [119,111,114,100]
noncomputable def qm:Str:=nm [116,101,120,116]
noncomputable def bz:Str:=nm [112,105,101,99,101]
noncomputable def nA:Str:=nm [105,116,101,109]
noncomputable def vK:Str:=nm [107]
noncomputable def iT:Str:=nm [112,97,116,104]
noncomputable def Ej:Str:=nm [109,97,114,107]
noncomputable def Js:Str:=nm [116,101,120,116,115]
noncomputable def Lw:Str:=nm [112,105,101,99,101,115]
noncomputable def tE:Str:=nm [119,111,114,100,115]
noncomputable def Ea:Str:=nm [102,114,111,110,116]
noncomputable def ym:Str:=nm [105,116,101,109,115]
noncomputable def Im:Str:=nm [95,108,97,119,95,119,111,114,100,115,46,60,108,111,99,97,108,115,62,46]
noncomputable def Qz:Str:=nm [95,108,97,119,95,116,101,120,116,115,46,60,108,111,99,97,108,115,62,46]
noncomputable def LQ:Str:=nm [108,97,119,46,60,108,111,99,97,108,115,62,46]
noncomputable def Ec:Str:=nm [95,108,97,119,95,105,116,101,109,115,46,60,108,111,99,97,108,115,62,46]
noncomputable def Ae:Str:=nm [95,108,97,119,95,112,108,97,105,110,46,60,108,111,99,97,108,115,62,46]
noncomputable def JP:Str:=nm [95,108,97,119,95,112,108,97,99,101,46,60,108,111,99,97,108,115,62,46]
noncomputable def Vl:Str:=nm [95,108,97,119,95,108,101,102,116,46,60,108,111,99,97,108,115,62,46]
noncomputable def Zj:Str:=nm [95,108,97,119,95,114,111,111,116,46,60,108,111,99,97,108,115,62,46]
noncomputable def UJ:Str:=nm [110,111,114,109,112,97,116,104,46,60,108,111,99,97,108,115,62,46]
noncomputable def qP (f:Nat)(x:List Nat)(t:Nat)(y:List Nat)(u Z V:Nat):Ans:=⟨.call (.ref f) ⟨[.str (nm x) t],[]⟩,600,[],.ok (.ret (.str (nm y) u)),[],[],cQ,[],Z,V⟩
noncomputable def tV (P:Params):Expr:=yG (stOf P 826 2)
noncomputable def uc (P:Params)(fr:Nat)(d:Nat):Env:=v4 P 826 fr d Im [] (tV P)
theorem Mz P wa epw ps fr d it acc l i ep k vs Z V:Fa (bh P none 900 31 T8 (cI (tV P) (uc P fr d) it acc) [(d,bQ gP k none),(it,cz l i),(acc,aa ep vs)] Z V [(wa,aa epw (tvs ps))] (dR it l i (.ref wa) (qR 8 (fun _=>[(Z,aa 0 (tvs []))]) wa Z true (bZ 4 acc ep vs (.ref wa) (.nil))))) 7 (.again (cI (tV P) (uc P fr d) it acc)) (fun R=>[(d,bQ gP (ak R 0) (some (.ref wa))),(it,cz l (i+1)),(acc,aa (aB ep vs (.ref wa)) (vs++[(.ref wa)]))]++[]) (Z+1) (V+1):=⟨by kernel_rfl⟩
theorem Nx P wa epw ps fr d it acc l i ep k vs x0 Z V:Fa (bh P none 900 31 T8 (cI (tV P) (uc P fr d) it acc) [(d,bQ gP k (some x0)),(it,cz l i),(acc,aa ep vs)] Z V [(wa,aa epw (tvs ps))] (dR it l i (.ref wa) (qR 8 (fun _=>[(Z,aa 0 (tvs []))]) wa Z true (bZ 4 acc ep vs (.ref wa) (.nil))))) 7 (.again (cI (tV P) (uc P fr d) it acc)) (fun R=>[(d,bQ gP (ak R 0) (some (.ref wa))),(it,cz l (i+1)),(acc,aa (aB ep vs (.ref wa)) (vs++[(.ref wa)]))]++[]) (Z+1) (V+1):=⟨by kernel_rfl⟩
theorem Ss P fr d it acc l i ep k vs Z V:Fa (bh P none 900 8 4402375033346 (cI (tV P) (uc P fr d) it acc) [(d,bQ gP k none),(it,cz l i),(acc,aa ep vs)] Z V [] (gU it l i (.nil))) 7 (.done .next) (fun _=>[(d,bQ gP k none),(it,jo i),(acc,aa ep vs)]++[]) (Z+2) (V+0):=⟨by kernel_rfl⟩
theorem Ql P fr d it acc l i ep k vs x0 Z V:Fa (bh P none 900 8 4402375033346 (cI (tV P) (uc P fr d) it acc) [(d,bQ gP k (some x0)),(it,cz l i),(acc,aa ep vs)] Z V [] (gU it l i (.nil))) 7 (.done .next) (fun _=>[(d,bQ gP k (some x0)),(it,jo i),(acc,aa ep vs)]++[]) (Z+2) (V+0):=⟨by kernel_rfl⟩
theorem Nv P wa epw ps fr d it acc l i ep k vs Z V:Fa (bh P none 900 32 WF (cI (tV P) (uc P fr d) it acc) [(d,bQ gP k none),(it,cz l i),(acc,aa ep vs)] Z V [(wa,aa epw (tvs ps))] (dR it l i (.ref wa) (qR 8 (fun _=>[(Z,aa 0 (tvs []))]) wa Z false (bZ 4 acc ep vs (.ref (Z+1)) (.nil))))) 23 (.again (cI (tV P) (uc P fr d) it acc)) (fun R=>[(d,bQ gP (ak R 0) (some (.ref wa))),(it,cz l (i+1)),(acc,aa (aB ep vs (.ref (Z+1))) (vs++[(.ref (Z+1))]))]++[(Z+1,aa 0 [.str (nm []) (V+1)])]) (Z+2) (V+2):=⟨by kernel_rfl⟩
theorem Lk P wa epw ps fr d it acc l i ep k vs x0 Z V:Fa (bh P none 900 32 WF (cI (tV P) (uc P fr d) it acc) [(d,bQ gP k (some x0)),(it,cz l i),(acc,aa ep vs)] Z V [(wa,aa epw (tvs ps))] (dR it l i (.ref wa) (qR 8 (fun _=>[(Z,aa 0 (tvs []))]) wa Z false (bZ 4 acc ep vs (.ref (Z+1)) (.nil))))) 23 (.again (cI (tV P) (uc P fr d) it acc)) (fun R=>[(d,bQ gP (ak R 0) (some (.ref wa))),(it,cz l (i+1)),(acc,aa (aB ep vs (.ref (Z+1))) (vs++[(.ref (Z+1))]))]++[(Z+1,aa 0 [.str (nm []) (V+1)])]) (Z+2) (V+2):=⟨by kernel_rfl⟩
noncomputable def Nk (P:Params):Expr:=yG (stOf P 860 0)
noncomputable def Oh (P:Params)(fr:Nat)(d:Nat):Env:=v4 P 860 fr d Qz [] (Nk P)
theorem RW P wa ps fr d it acc l i ep k vs Z V:Fa (bh P none 900 27 0x1030001000101010102000200 (cI (Nk P) (Oh P fr d) it acc) [(d,bQ gP k none),(it,cz l i),(acc,aa ep vs)] Z V [] (dR it l i (.ref wa) (dF 0 [] [47] wa ps (bZ 4 acc ep vs (.str (nm (ao [47] (aF ps))) (jT ps (V+2))) (.nil))))) 7 (.again (cI (Nk P) (Oh P fr d) it acc)) (fun R=>[(d,bQ gP (ak R 0) (some (.ref wa))),(it,cz l (i+1)),(acc,aa (aB ep vs (.str (nm (ao [47] (aF ps))) (jT ps (V+2)))) (vs++[(.str (nm (ao [47] (aF ps))) (jT ps (V+2)))]))]++[]) (Z+0) (jK ps (V+2)):=⟨by kernel_rfl⟩
theorem Qq P wa ps fr d it acc l i ep k vs x0 Z V:Fa (bh P none 900 27 0x1030001000101010102000200 (cI (Nk P) (Oh P fr d) it acc) [(d,bQ gP k (some x0)),(it,cz l i),(acc,aa ep vs)] Z V [] (dR it l i (.ref wa) (dF 0 [] [47] wa ps (bZ 4 acc ep vs (.str (nm (ao [47] (aF ps))) (jT ps (V+2))) (.nil))))) 7 (.again (cI (Nk P) (Oh P fr d) it acc)) (fun R=>[(d,bQ gP (ak R 0) (some (.ref wa))),(it,cz l (i+1)),(acc,aa (aB ep vs (.str (nm (ao [47] (aF ps))) (jT ps (V+2)))) (vs++[(.str (nm (ao [47] (aF ps))) (jT ps (V+2)))]))]++[]) (Z+0) (jK ps (V+2)):=⟨by kernel_rfl⟩
theorem Ru P fr d it acc l i ep k vs Z V:Fa (bh P none 900 7 4402375033344 (cI (Nk P) (Oh P fr d) it acc) [(d,bQ gP k none),(it,cz l i),(acc,aa ep vs)] Z V [] (gU it l i (.nil))) 7 (.done .next) (fun _=>[(d,bQ gP k none),(it,jo i),(acc,aa ep vs)]++[]) (Z+2) (V+0):=⟨by kernel_rfl⟩
theorem Qt P fr d it acc l i ep k vs x0 Z V:Fa (bh P none 900 7 4402375033344 (cI (Nk P) (Oh P fr d) it acc) [(d,bQ gP k (some x0)),(it,cz l i),(acc,aa ep vs)] Z V [] (gU it l i (.nil))) 7 (.done .next) (fun _=>[(d,bQ gP k (some x0)),(it,jo i),(acc,aa ep vs)]++[]) (Z+2) (V+0):=⟨by kernel_rfl⟩
noncomputable def JM (P:Params):Expr:=Jh 0 (Hj (yG (stOf P 872 3)))
noncomputable def K6 (P:Params)(fr:Nat)(ca:Nat)(d:Nat):Env:=v4 P 872 fr d LQ [(Ej,ca)] (JM P)
theorem P0 P ca mt t mk x fr d it acc l i ep k vs Z V:Fa (bh P none 900 33 W0 (cI (JM P) (K6 P fr ca d) it acc) [(d,bQ qm k none),(it,cz l i),(acc,aa ep vs)] Z V [(ca,bU (.str (nm [mk]) mt))] (dR it l i (.str (nm x) t) (dB [mk] x (dB ([mk]++x) [mk] (bZ 4 acc ep vs (.str (nm ([mk]++x++[mk])) (aY ([mk]++x) [mk] (aY [mk] x mt t (V+1)) mt (eN [mk] x (V+1)))) (.nil)))))) 7 (.again (cI (JM P) (K6 P fr ca d) it acc)) (fun R=>[(d,bQ qm (ak R 0) (some (.str (nm x) t))),(it,cz l (i+1)),(acc,aa (aB ep vs (.str (nm ([mk]++x++[mk])) (aY ([mk]++x) [mk] (aY [mk] x mt t (V+1)) mt (eN [mk] x (V+1))))) (vs++[(.str (nm ([mk]++x++[mk])) (aY ([mk]++x) [mk] (aY [mk] x mt t (V+1)) mt (eN [mk] x (V+1))))]))]++[]) (Z+0) (eN ([mk]++x) [mk] (eN [mk] x (V+1))):=⟨by kernel_rfl⟩
theorem QT P ca mt t mk x fr d it acc l i ep k vs x0 Z V:Fa (bh P none 900 33 W0 (cI (JM P) (K6 P fr ca d) it acc) [(d,bQ qm k (some x0)),(it,cz l i),(acc,aa ep vs)] Z V [(ca,bU (.str (nm [mk]) mt))] (dR it l i (.str (nm x) t) (dB [mk] x (dB ([mk]++x) [mk] (bZ 4 acc ep vs (.str (nm ([mk]++x++[mk])) (aY ([mk]++x) [mk] (aY [mk] x mt t (V+1)) mt (eN [mk] x (V+1)))) (.nil)))))) 7 (.again (cI (JM P) (K6 P fr ca d) it acc)) (fun R=>[(d,bQ qm (ak R 0) (some (.str (nm x) t))),(it,cz l (i+1)),(acc,aa (aB ep vs (.str (nm ([mk]++x++[mk])) (aY ([mk]++x) [mk] (aY [mk] x mt t (V+1)) mt (eN [mk] x (V+1))))) (vs++[(.str (nm ([mk]++x++[mk])) (aY ([mk]++x) [mk] (aY [mk] x mt t (V+1)) mt (eN [mk] x (V+1))))]))]++[]) (Z+0) (eN ([mk]++x) [mk] (eN [mk] x (V+1))):=⟨by kernel_rfl⟩
theorem Qp P ca fr d it acc l i ep k vs Z V:Fa (bh P none 900 7 4402375033344 (cI (JM P) (K6 P fr ca d) it acc) [(d,bQ qm k none),(it,cz l i),(acc,aa ep vs)] Z V [] (gU it l i (.nil))) 7 (.done .next) (fun _=>[(d,bQ qm k none),(it,jo i),(acc,aa ep vs)]++[]) (Z+2) (V+0):=⟨by kernel_rfl⟩
theorem R6 P ca fr d it acc l i ep k vs x0 Z V:Fa (bh P none 900 7 4402375033344 (cI (JM P) (K6 P fr ca d) it acc) [(d,bQ qm k (some x0)),(it,cz l i),(acc,aa ep vs)] Z V [] (gU it l i (.nil))) 7 (.done .next) (fun _=>[(d,bQ qm k (some x0)),(it,jo i),(acc,aa ep vs)]++[]) (Z+2) (V+0):=⟨by kernel_rfl⟩
noncomputable def JB (P:Params):Expr:=yG (stOf P 831 0)
noncomputable def K5 (P:Params)(fr:Nat)(d:Nat):Env:=v4 P 831 fr d Ec [] (JB P)
theorem Rp P p t fr d it acc l i ep k vs Z V:Fa (bh P none 900 21 0x103000101010102000200 (cI (JB P) (K5 P fr d) it acc) [(d,bQ bz k none),(it,cz l i),(acc,aa ep vs)] Z V [] (dR it l i (.str (nm p) t) (bZ 4 acc ep vs (.ref Z) (.nil)))) 15 (.again (cI (JB P) (K5 P fr d) it acc)) (fun R=>[(d,bQ bz (ak R 0) (some (.str (nm p) t))),(it,cz l (i+1)),(acc,aa (aB ep vs (.ref Z)) (vs++[(.ref Z)]))]++[(Z,aa 0 [(.str (nm p) t)])]) (Z+1) (V+1):=⟨by kernel_rfl⟩
theorem Ra P p t fr d it acc l i ep k vs x0 Z V:Fa (bh P none 900 21 0x103000101010102000200 (cI (JB P) (K5 P fr d) it acc) [(d,bQ bz k (some x0)),(it,cz l i),(acc,aa ep vs)] Z V [] (dR it l i (.str (nm p) t) (bZ 4 acc ep vs (.ref Z) (.nil)))) 15 (.again (cI (JB P) (K5 P fr d) it acc)) (fun R=>[(d,bQ bz (ak R 0) (some (.str (nm p) t))),(it,cz l (i+1)),(acc,aa (aB ep vs (.ref Z)) (vs++[(.ref Z)]))]++[(Z,aa 0 [(.str (nm p) t)])]) (Z+1) (V+1):=⟨by kernel_rfl⟩
theorem RP P fr d it acc l i ep k vs Z V:Fa (bh P none 900 7 4402375033344 (cI (JB P) (K5 P fr d) it acc) [(d,bQ bz k none),(it,cz l i),(acc,aa ep vs)] Z V [] (gU it l i (.nil))) 7 (.done .next) (fun _=>[(d,bQ bz k none),(it,jo i),(acc,aa ep vs)]++[]) (Z+2) (V+0):=⟨by kernel_rfl⟩
theorem PJ P fr d it acc l i ep k vs x0 Z V:Fa (bh P none 900 7 4402375033344 (cI (JB P) (K5 P fr d) it acc) [(d,bQ bz k (some x0)),(it,cz l i),(acc,aa ep vs)] Z V [] (gU it l i (.nil))) 7 (.done .next) (fun _=>[(d,bQ bz k (some x0)),(it,jo i),(acc,aa ep vs)]++[]) (Z+2) (V+0):=⟨by kernel_rfl⟩
noncomputable def Hz (P:Params):Expr:=Hj (yG (Ih (Wh (stOf P 831 1)) 0))
noncomputable def H9 (P:Params)(fr:Nat)(d:Nat):Env:=v4 P 831 fr d Ec [] (Hz P)
theorem Qe P p t fr d it acc l i ep k vs Z V:Fa (bh P none 900 21 0x103000101010102000200 (cI (Hz P) (H9 P fr d) it acc) [(d,bQ bz k none),(it,cz l i),(acc,aa ep vs)] Z V [] (dR it l i (.str (nm p) t) (bZ 4 acc ep vs (.ref Z) (.nil)))) 15 (.again (cI (Hz P) (H9 P fr d) it acc)) (fun R=>[(d,bQ bz (ak R 0) (some (.str (nm p) t))),(it,cz l (i+1)),(acc,aa (aB ep vs (.ref Z)) (vs++[(.ref Z)]))]++[(Z,aa 0 [(.str (nm p) t)])]) (Z+1) (V+1):=⟨by kernel_rfl⟩
theorem Qh P p t fr d it acc l i ep k vs x0 Z V:Fa (bh P none 900 21 0x103000101010102000200 (cI (Hz P) (H9 P fr d) it acc) [(d,bQ bz k (some x0)),(it,cz l i),(acc,aa ep vs)] Z V [] (dR it l i (.str (nm p) t) (bZ 4 acc ep vs (.ref Z) (.nil)))) 15 (.again (cI (Hz P) (H9 P fr d) it acc)) (fun R=>[(d,bQ bz (ak R 0) (some (.str (nm p) t))),(it,cz l (i+1)),(acc,aa (aB ep vs (.ref Z)) (vs++[(.ref Z)]))]++[(Z,aa 0 [(.str (nm p) t)])]) (Z+1) (V+1):=⟨by kernel_rfl⟩
theorem Rw P fr d it acc l i ep k vs Z V:Fa (bh P none 900 7 4402375033344 (cI (Hz P) (H9 P fr d) it acc) [(d,bQ bz k none),(it,cz l i),(acc,aa ep vs)] Z V [] (gU it l i (.nil))) 7 (.done .next) (fun _=>[(d,bQ bz k none),(it,jo i),(acc,aa ep vs)]++[]) (Z+2) (V+0):=⟨by kernel_rfl⟩
theorem QQ P fr d it acc l i ep k vs x0 Z V:Fa (bh P none 900 7 4402375033344 (cI (Hz P) (H9 P fr d) it acc) [(d,bQ bz k (some x0)),(it,cz l i),(acc,aa ep vs)] Z V [] (gU it l i (.nil))) 7 (.done .next) (fun _=>[(d,bQ bz k (some x0)),(it,jo i),(acc,aa ep vs)]++[]) (Z+2) (V+0):=⟨by kernel_rfl⟩
noncomputable def GK (P:Params):Expr:=yG (stOf P 855 2)
noncomputable def H7 (P:Params)(fr:Nat)(ca:Nat)(d:Nat):Env:=v4 P 855 fr d Ae [(Ej,ca)] (GK P)
theorem Qa P ca mt mk wa ps fr d it acc l i ep k vs Z V:Fa (bh P none 900 41 WK (cI (GK P) (H7 P fr ca d) it acc) [(d,bQ nA k none),(it,cz l i),(acc,aa ep vs)] Z V [(ca,bU (.str (nm [mk]) mt))] (dR it l i (.ref wa) (dB [mk] [32] (dB [mk,32] [mk] (dF 0 [] [mk,32,mk] wa ps (bZ 4 acc ep vs (.str (nm (ao [mk,32,mk] (aF ps))) (jT ps (V+4))) (.nil))))))) 7 (.again (cI (GK P) (H7 P fr ca d) it acc)) (fun R=>[(d,bQ nA (ak R 0) (some (.ref wa))),(it,cz l (i+1)),(acc,aa (aB ep vs (.str (nm (ao [mk,32,mk] (aF ps))) (jT ps (V+4)))) (vs++[(.str (nm (ao [mk,32,mk] (aF ps))) (jT ps (V+4)))]))]++[]) (Z+0) (jK ps (V+4)):=⟨by kernel_rfl⟩
theorem QG P ca mt mk wa ps fr d it acc l i ep k vs x0 Z V:Fa (bh P none 900 41 WK (cI (GK P) (H7 P fr ca d) it acc) [(d,bQ nA k (some x0)),(it,cz l i),(acc,aa ep vs)] Z V [(ca,bU (.str (nm [mk]) mt))] (dR it l i (.ref wa) (dB [mk] [32] (dB [mk,32] [mk] (dF 0 [] [mk,32,mk] wa ps (bZ 4 acc ep vs (.str (nm (ao [mk,32,mk] (aF ps))) (jT ps (V+4))) (.nil))))))) 7 (.again (cI (GK P) (H7 P fr ca d) it acc)) (fun R=>[(d,bQ nA (ak R 0) (some (.ref wa))),(it,cz l (i+1)),(acc,aa (aB ep vs (.str (nm (ao [mk,32,mk] (aF ps))) (jT ps (V+4)))) (vs++[(.str (nm (ao [mk,32,mk] (aF ps))) (jT ps (V+4)))]))]++[]) (Z+0) (jK ps (V+4)):=⟨by kernel_rfl⟩
theorem Rn P ca fr d it acc l i ep k vs Z V:Fa (bh P none 900 7 4402375033344 (cI (GK P) (H7 P fr ca d) it acc) [(d,bQ nA k none),(it,cz l i),(acc,aa ep vs)] Z V [] (gU it l i (.nil))) 7 (.done .next) (fun _=>[(d,bQ nA k none),(it,jo i),(acc,aa ep vs)]++[]) (Z+2) (V+0):=⟨by kernel_rfl⟩
theorem Sd P ca fr d it acc l i ep k vs x0 Z V:Fa (bh P none 900 7 4402375033344 (cI (GK P) (H7 P fr ca d) it acc) [(d,bQ nA k (some x0)),(it,cz l i),(acc,aa ep vs)] Z V [] (gU it l i (.nil))) 7 (.done .next) (fun _=>[(d,bQ nA k (some x0)),(it,jo i),(acc,aa ep vs)]++[]) (Z+2) (V+0):=⟨by kernel_rfl⟩
noncomputable def Dl (P:Params):Expr:=Hj (Jh 0 (Hj (yG (stOf P 855 7))))
noncomputable def Gg (P:Params)(fr:Nat)(ca:Nat)(d:Nat):Env:=v4 P 855 fr d Ae [(Js,ca)] (Dl P)
theorem Qf P ca ta ept kt xt ki x tv fr d it acc l i ep k vs Z V:Fa (bh P none 900 29 M5 (cI (Dl P) (Gg P fr ca d) it acc) [(d,bQ vK k none),(it,cz l i),(acc,aa ep vs)] Z V [(ca,bU (.ref ta)),(ta,aa ept tv)] (dR it l i (.int ki kt) (aX 0 [] ta ki (.str (nm x) xt) (bZ 4 acc ep vs (.str (nm x) xt) (.nil))))) 7 (.again (cI (Dl P) (Gg P fr ca d) it acc)) (fun R=>[(d,bQ vK (ak R 0) (some (.int ki kt))),(it,cz l (i+1)),(acc,aa (aB ep vs (.str (nm x) xt)) (vs++[(.str (nm x) xt)]))]++[]) (Z+0) (V+1):=⟨by kernel_rfl⟩
theorem RT P ca ta ept kt xt ki x tv fr d it acc l i ep k vs x0 Z V:Fa (bh P none 900 29 M5 (cI (Dl P) (Gg P fr ca d) it acc) [(d,bQ vK k (some x0)),(it,cz l i),(acc,aa ep vs)] Z V [(ca,bU (.ref ta)),(ta,aa ept tv)] (dR it l i (.int ki kt) (aX 0 [] ta ki (.str (nm x) xt) (bZ 4 acc ep vs (.str (nm x) xt) (.nil))))) 7 (.again (cI (Dl P) (Gg P fr ca d) it acc)) (fun R=>[(d,bQ vK (ak R 0) (some (.int ki kt))),(it,cz l (i+1)),(acc,aa (aB ep vs (.str (nm x) xt)) (vs++[(.str (nm x) xt)]))]++[]) (Z+0) (V+1):=⟨by kernel_rfl⟩
theorem QV P ca fr d it acc l i ep k vs Z V:Fa (bh P none 900 7 4402375033344 (cI (Dl P) (Gg P fr ca d) it acc) [(d,bQ vK k none),(it,cz l i),(acc,aa ep vs)] Z V [] (gU it l i (.nil))) 7 (.done .next) (fun _=>[(d,bQ vK k none),(it,jo i),(acc,aa ep vs)]++[]) (Z+2) (V+0):=⟨by kernel_rfl⟩
theorem Q4 P ca fr d it acc l i ep k vs x0 Z V:Fa (bh P none 900 7 4402375033344 (cI (Dl P) (Gg P fr ca d) it acc) [(d,bQ vK k (some x0)),(it,cz l i),(acc,aa ep vs)] Z V [] (gU it l i (.nil))) 7 (.done .next) (fun _=>[(d,bQ vK k (some x0)),(it,jo i),(acc,aa ep vs)]++[]) (Z+2) (V+0):=⟨by kernel_rfl⟩
noncomputable def Ax (P:Params):Expr:=Jh 0 (yG (Ih (Wh (stOf P 855 10)) 1))
noncomputable def Bb (P:Params)(fr:Nat)(d:Nat):Env:=v4 P 855 fr d Ae [] (Ax P)
theorem qG P p t fr d it acc l i ep k vs Z V:Fa (bh P none 900 21 0x103000101010102000200 (cI (Ax P) (Bb P fr d) it acc) [(d,bQ bz k none),(it,cz l i),(acc,aa ep vs)] Z V [] (dR it l i (.str (nm p) t) (bZ 4 acc ep vs (.ref Z) (.nil)))) 15 (.again (cI (Ax P) (Bb P fr d) it acc)) (fun R=>[(d,bQ bz (ak R 0) (some (.str (nm p) t))),(it,cz l (i+1)),(acc,aa (aB ep vs (.ref Z)) (vs++[(.ref Z)]))]++[(Z,aa 0 [(.str (nm p) t)])]) (Z+1) (V+1):=⟨by kernel_rfl⟩
theorem qI P p t fr d it acc l i ep k vs x0 Z V:Fa (bh P none 900 21 0x103000101010102000200 (cI (Ax P) (Bb P fr d) it acc) [(d,bQ bz k (some x0)),(it,cz l i),(acc,aa ep vs)] Z V [] (dR it l i (.str (nm p) t) (bZ 4 acc ep vs (.ref Z) (.nil)))) 15 (.again (cI (Ax P) (Bb P fr d) it acc)) (fun R=>[(d,bQ bz (ak R 0) (some (.str (nm p) t))),(it,cz l (i+1)),(acc,aa (aB ep vs (.ref Z)) (vs++[(.ref Z)]))]++[(Z,aa 0 [(.str (nm p) t)])]) (Z+1) (V+1):=⟨by kernel_rfl⟩
theorem RZ P fr d it acc l i ep k vs Z V:Fa (bh P none 900 7 4402375033344 (cI (Ax P) (Bb P fr d) it acc) [(d,bQ bz k none),(it,cz l i),(acc,aa ep vs)] Z V [] (gU it l i (.nil))) 7 (.done .next) (fun _=>[(d,bQ bz k none),(it,jo i),(acc,aa ep vs)]++[]) (Z+2) (V+0):=⟨by kernel_rfl⟩
theorem Io P fr d it acc l i ep k vs x0 Z V:Fa (bh P none 900 7 4402375033344 (cI (Ax P) (Bb P fr d) it acc) [(d,bQ bz k (some x0)),(it,cz l i),(acc,aa ep vs)] Z V [] (gU it l i (.nil))) 7 (.done .next) (fun _=>[(d,bQ bz k (some x0)),(it,jo i),(acc,aa ep vs)]++[]) (Z+2) (V+0):=⟨by kernel_rfl⟩
noncomputable def K3 (P:Params):Expr:=Xc (Ij 1 (YW (stOf P 872 6)))
noncomputable def NT (P:Params)(fr:Nat)(d:Nat):Env:=v4 P 872 fr d LQ [] (K3 P)
theorem R7 P x y t u sz1 tok1 fr d it acc l i ep k vs Z V:Fa (bh P none 500 26 0x103000100010001010102000200 (cI (K3 P) (NT P fr d) it acc) [(d,bQ iT k none),(it,cz l i),(acc,aa ep vs)] Z V [] (dR it l i (.str (nm x) t) (bc 0 (qP 126 x t y u sz1 tok1) Z (V+1) (bZ 4 acc ep vs (.str (nm y) u) (.nil))))) 7 (.again (cI (K3 P) (NT P fr d) it acc)) (fun R=>[(d,bQ iT (ak R 0) (some (.str (nm x) t))),(it,cz l (i+1)),(acc,aa (aB ep vs (.str (nm y) u)) (vs++[(.str (nm y) u)]))]++[]) sz1 tok1:=⟨by kernel_rfl⟩
theorem RX P x y t u sz1 tok1 fr d it acc l i ep k vs x0 Z V:Fa (bh P none 500 26 0x103000100010001010102000200 (cI (K3 P) (NT P fr d) it acc) [(d,bQ iT k (some x0)),(it,cz l i),(acc,aa ep vs)] Z V [] (dR it l i (.str (nm x) t) (bc 0 (qP 126 x t y u sz1 tok1) Z (V+1) (bZ 4 acc ep vs (.str (nm y) u) (.nil))))) 7 (.again (cI (K3 P) (NT P fr d) it acc)) (fun R=>[(d,bQ iT (ak R 0) (some (.str (nm x) t))),(it,cz l (i+1)),(acc,aa (aB ep vs (.str (nm y) u)) (vs++[(.str (nm y) u)]))]++[]) sz1 tok1:=⟨by kernel_rfl⟩
theorem RL P fr d it acc l i ep k vs Z V:Fa (bh P none 500 7 4402375033344 (cI (K3 P) (NT P fr d) it acc) [(d,bQ iT k none),(it,cz l i),(acc,aa ep vs)] Z V [] (gU it l i (.nil))) 7 (.done .next) (fun _=>[(d,bQ iT k none),(it,jo i),(acc,aa ep vs)]++[]) (Z+2) (V+0):=⟨by kernel_rfl⟩
theorem PN P fr d it acc l i ep k vs x0 Z V:Fa (bh P none 500 7 4402375033344 (cI (K3 P) (NT P fr d) it acc) [(d,bQ iT k (some x0)),(it,cz l i),(acc,aa ep vs)] Z V [] (gU it l i (.nil))) 7 (.done .next) (fun _=>[(d,bQ iT k (some x0)),(it,jo i),(acc,aa ep vs)]++[]) (Z+2) (V+0):=⟨by kernel_rfl⟩
noncomputable def yL (P:Params):Expr:=Tw (Ij 1 (YW (stOf P 872 6)))
noncomputable def Ar (P:Params)(fr:Nat)(d:Nat):Env:=v4 P 872 fr d LQ [] (yL P)
theorem Nu P x y t u sz1 tok1 fr d it acc l i ep k vs Z V:Fa (bh P none 500 26 0x103000100010001010102000200 (cI (yL P) (Ar P fr d) it acc) [(d,bQ iT k none),(it,cz l i),(acc,aa ep vs)] Z V [] (dR it l i (.str (nm x) t) (bc 0 (qP 850 x t y u sz1 tok1) Z (V+1) (bZ 4 acc ep vs (.str (nm y) u) (.nil))))) 7 (.again (cI (yL P) (Ar P fr d) it acc)) (fun R=>[(d,bQ iT (ak R 0) (some (.str (nm x) t))),(it,cz l (i+1)),(acc,aa (aB ep vs (.str (nm y) u)) (vs++[(.str (nm y) u)]))]++[]) sz1 tok1:=⟨by kernel_rfl⟩
theorem MP P x y t u sz1 tok1 fr d it acc l i ep k vs x0 Z V:Fa (bh P none 500 26 0x103000100010001010102000200 (cI (yL P) (Ar P fr d) it acc) [(d,bQ iT k (some x0)),(it,cz l i),(acc,aa ep vs)] Z V [] (dR it l i (.str (nm x) t) (bc 0 (qP 850 x t y u sz1 tok1) Z (V+1) (bZ 4 acc ep vs (.str (nm y) u) (.nil))))) 7 (.again (cI (yL P) (Ar P fr d) it acc)) (fun R=>[(d,bQ iT (ak R 0) (some (.str (nm x) t))),(it,cz l (i+1)),(acc,aa (aB ep vs (.str (nm y) u)) (vs++[(.str (nm y) u)]))]++[]) sz1 tok1:=⟨by kernel_rfl⟩
theorem Ln P fr d it acc l i ep k vs Z V:Fa (bh P none 500 7 4402375033344 (cI (yL P) (Ar P fr d) it acc) [(d,bQ iT k none),(it,cz l i),(acc,aa ep vs)] Z V [] (gU it l i (.nil))) 7 (.done .next) (fun _=>[(d,bQ iT k none),(it,jo i),(acc,aa ep vs)]++[]) (Z+2) (V+0):=⟨by kernel_rfl⟩
theorem MK P fr d it acc l i ep k vs x0 Z V:Fa (bh P none 500 7 4402375033344 (cI (yL P) (Ar P fr d) it acc) [(d,bQ iT k (some x0)),(it,cz l i),(acc,aa ep vs)] Z V [] (gU it l i (.nil))) 7 (.done .next) (fun _=>[(d,bQ iT k (some x0)),(it,jo i),(acc,aa ep vs)]++[]) (Z+2) (V+0):=⟨by kernel_rfl⟩
noncomputable def ux (P:Params):Expr:=Jh 0 (yG (stOf P 850 1))
noncomputable def vp (P:Params)(fr:Nat)(d:Nat):Env:=v4 P 850 fr d JP [] (ux P)
theorem Mx P p t fr d it acc l i ep k vs Z V:Fa (bh P none 900 21 0x103000101010102000200 (cI (ux P) (vp P fr d) it acc) [(d,bQ bz k none),(it,cz l i),(acc,aa ep vs)] Z V [] (dR it l i (.str (nm p) t) (bZ 4 acc ep vs (.ref Z) (.nil)))) 15 (.again (cI (ux P) (vp P fr d) it acc)) (fun R=>[(d,bQ bz (ak R 0) (some (.str (nm p) t))),(it,cz l (i+1)),(acc,aa (aB ep vs (.ref Z)) (vs++[(.ref Z)]))]++[(Z,aa 0 [(.str (nm p) t)])]) (Z+1) (V+1):=⟨by kernel_rfl⟩
theorem M8 P p t fr d it acc l i ep k vs x0 Z V:Fa (bh P none 900 21 0x103000101010102000200 (cI (ux P) (vp P fr d) it acc) [(d,bQ bz k (some x0)),(it,cz l i),(acc,aa ep vs)] Z V [] (dR it l i (.str (nm p) t) (bZ 4 acc ep vs (.ref Z) (.nil)))) 15 (.again (cI (ux P) (vp P fr d) it acc)) (fun R=>[(d,bQ bz (ak R 0) (some (.str (nm p) t))),(it,cz l (i+1)),(acc,aa (aB ep vs (.ref Z)) (vs++[(.ref Z)]))]++[(Z,aa 0 [(.str (nm p) t)])]) (Z+1) (V+1):=⟨by kernel_rfl⟩
theorem N5 P fr d it acc l i ep k vs Z V:Fa (bh P none 900 7 4402375033344 (cI (ux P) (vp P fr d) it acc) [(d,bQ bz k none),(it,cz l i),(acc,aa ep vs)] Z V [] (gU it l i (.nil))) 7 (.done .next) (fun _=>[(d,bQ bz k none),(it,jo i),(acc,aa ep vs)]++[]) (Z+2) (V+0):=⟨by kernel_rfl⟩
theorem Nh P fr d it acc l i ep k vs x0 Z V:Fa (bh P none 900 7 4402375033344 (cI (ux P) (vp P fr d) it acc) [(d,bQ bz k (some x0)),(it,cz l i),(acc,aa ep vs)] Z V [] (gU it l i (.nil))) 7 (.done .next) (fun _=>[(d,bQ bz k (some x0)),(it,jo i),(acc,aa ep vs)]++[]) (Z+2) (V+0):=⟨by kernel_rfl⟩
noncomputable def sy (P:Params):Expr:=Hj (Jh 0 (Hj (Ij 0 (yG (stOf P 850 4)))))
noncomputable def tH (P:Params)(fr:Nat)(ca:Nat)(d:Nat):Env:=v4 P 850 fr d JP [(Lw,ca)] (sy P)
theorem NK P ca ta ept kt xt ki x tv fr d it acc l i ep k vs Z V:Fa (bh P none 900 29 M5 (cI (sy P) (tH P fr ca d) it acc) [(d,bQ vK k none),(it,cz l i),(acc,aa ep vs)] Z V [(ca,bU (.ref ta)),(ta,aa ept tv)] (dR it l i (.int ki kt) (aX 0 [] ta ki (.str (nm x) xt) (bZ 4 acc ep vs (.str (nm x) xt) (.nil))))) 7 (.again (cI (sy P) (tH P fr ca d) it acc)) (fun R=>[(d,bQ vK (ak R 0) (some (.int ki kt))),(it,cz l (i+1)),(acc,aa (aB ep vs (.str (nm x) xt)) (vs++[(.str (nm x) xt)]))]++[]) (Z+0) (V+1):=⟨by kernel_rfl⟩
theorem Lp P ca ta ept kt xt ki x tv fr d it acc l i ep k vs x0 Z V:Fa (bh P none 900 29 M5 (cI (sy P) (tH P fr ca d) it acc) [(d,bQ vK k (some x0)),(it,cz l i),(acc,aa ep vs)] Z V [(ca,bU (.ref ta)),(ta,aa ept tv)] (dR it l i (.int ki kt) (aX 0 [] ta ki (.str (nm x) xt) (bZ 4 acc ep vs (.str (nm x) xt) (.nil))))) 7 (.again (cI (sy P) (tH P fr ca d) it acc)) (fun R=>[(d,bQ vK (ak R 0) (some (.int ki kt))),(it,cz l (i+1)),(acc,aa (aB ep vs (.str (nm x) xt)) (vs++[(.str (nm x) xt)]))]++[]) (Z+0) (V+1):=⟨by kernel_rfl⟩
theorem Ml P ca fr d it acc l i ep k vs Z V:Fa (bh P none 900 7 4402375033344 (cI (sy P) (tH P fr ca d) it acc) [(d,bQ vK k none),(it,cz l i),(acc,aa ep vs)] Z V [] (gU it l i (.nil))) 7 (.done .next) (fun _=>[(d,bQ vK k none),(it,jo i),(acc,aa ep vs)]++[]) (Z+2) (V+0):=⟨by kernel_rfl⟩
theorem K8 P ca fr d it acc l i ep k vs x0 Z V:Fa (bh P none 900 7 4402375033344 (cI (sy P) (tH P fr ca d) it acc) [(d,bQ vK k (some x0)),(it,cz l i),(acc,aa ep vs)] Z V [] (gU it l i (.nil))) 7 (.done .next) (fun _=>[(d,bQ vK k (some x0)),(it,jo i),(acc,aa ep vs)]++[]) (Z+2) (V+0):=⟨by kernel_rfl⟩
section
section
variable {w:World} {J:Array GenState} {dr:Drawn} {os:Osw}
theorem nR {Fn:bw}(hkt:Sub (KF w.params) Fn)(fr d it acc l epl:Nat)(xs:List Value)(hl:Fn l (aa epl xs))(hn:xs.length≤50000){ds:List (List Nat)}(hx:All2 (fun x dd=>yC x dd) xs ds)(Z V:Nat):
  ∃(cur:Option Value) (o:CompOut),((xs=[]∧cur=none)∨(xs≠[]∧∃v,cur=some v))∧Z≤o.Z∧aW o.X Z∧All2 (fun dd v=>(fun dd v F=>j0 F v [dd]) dd v (aj Fn o.X)) ds o.vs∧bu aH w J dr os Fn (cC 900 (dK (JB w.params) (K5 w.params fr d) it acc) bz d it l acc xs.length cur o) Z V:=by
 refine gh (Out:=fun dd v F=>j0 F v [dd]) (by kernel_rfl) hx hn (fun _ _ _ _ h=>j0.mono h) (fun i x dd cur ep vs Fr Z V hxi hin hlen hF=>?_) (fun cur ep vs Fr Z V hF=>?_) Z V
 ·obtain⟨t,rfl⟩:=hin
  refine⟨(.ref Z),aB ep vs (.ref Z),aj (fun _ _=>False) (bG [(Z,aa 0 [(.str (nm dd) t)])]),Z+1,V+1,Nat.le_add_right _ _,(aW.none _).or (aW.frL (by intro q hq;rw[List.mem_singleton] at hq;subst hq;show Z≤_;lia)),⟨Z,0,[(dd,t)],rfl,.inr (.inr (.head _)),rfl⟩,fun k=>?_⟩
  have ant:∀Fz,Sub Fr Fz→aA aH w J dr os Fz (dR it l i (.str (nm dd) t) (bZ 4 acc ep vs (.ref Z) (.nil))):=fun Fz hz=>jt (hz _ _ (hF _ _ hl)) hxi (eO hlen trivial)
  cases cur with
  |none=>
   exact dz (Rp w.params dd t fr d it acc l i ep k vs Z V) rfl (hkt.trans hF) (fun _ q=>(nomatch q)) ant
  |some x0=>
   exact dz (Ra w.params dd t fr d it acc l i ep k vs x0 Z V) rfl (hkt.trans hF) (fun _ q=>(nomatch q)) ant
 ·refine⟨Z+2,V,by lia,fun k Fz hz=>?_⟩
  cases cur with
  |none=>
   exact cP hl hkt hF hz rfl (RP w.params fr d it acc l xs.length ep k vs Z V)
  |some x0=>
   exact cP hl hkt hF hz rfl (PJ w.params fr d it acc l xs.length ep k vs x0 Z V)
theorem m7 {Fn:bw}(hkt:Sub (KF w.params) Fn)(fr d it acc l epl:Nat)(xs:List Value)(hl:Fn l (aa epl xs))(hn:xs.length≤50000){ds:List (List Nat)}(hx:All2 (fun x dd=>yC x dd) xs ds)(Z V:Nat):
  ∃(cur:Option Value) (o:CompOut),((xs=[]∧cur=none)∨(xs≠[]∧∃v,cur=some v))∧Z≤o.Z∧aW o.X Z∧All2 (fun dd v=>(fun dd v F=>j0 F v [dd]) dd v (aj Fn o.X)) ds o.vs∧bu aH w J dr os Fn (cC 900 (dK (Hz w.params) (H9 w.params fr d) it acc) bz d it l acc xs.length cur o) Z V:=by
 refine gh (Out:=fun dd v F=>j0 F v [dd]) (by kernel_rfl) hx hn (fun _ _ _ _ h=>j0.mono h) (fun i x dd cur ep vs Fr Z V hxi hin hlen hF=>?_) (fun cur ep vs Fr Z V hF=>?_) Z V
 ·obtain⟨t,rfl⟩:=hin
  refine⟨(.ref Z),aB ep vs (.ref Z),aj (fun _ _=>False) (bG [(Z,aa 0 [(.str (nm dd) t)])]),Z+1,V+1,Nat.le_add_right _ _,(aW.none _).or (aW.frL (by intro q hq;rw[List.mem_singleton] at hq;subst hq;show Z≤_;lia)),⟨Z,0,[(dd,t)],rfl,.inr (.inr (.head _)),rfl⟩,fun k=>?_⟩
  have ant:∀Fz,Sub Fr Fz→aA aH w J dr os Fz (dR it l i (.str (nm dd) t) (bZ 4 acc ep vs (.ref Z) (.nil))):=fun Fz hz=>jt (hz _ _ (hF _ _ hl)) hxi (eO hlen trivial)
  cases cur with
  |none=>
   exact dz (Qe w.params dd t fr d it acc l i ep k vs Z V) rfl (hkt.trans hF) (fun _ q=>(nomatch q)) ant
  |some x0=>
   exact dz (Qh w.params dd t fr d it acc l i ep k vs x0 Z V) rfl (hkt.trans hF) (fun _ q=>(nomatch q)) ant
 ·refine⟨Z+2,V,by lia,fun k Fz hz=>?_⟩
  cases cur with
  |none=>
   exact cP hl hkt hF hz rfl (Rw w.params fr d it acc l xs.length ep k vs Z V)
  |some x0=>
   exact cP hl hkt hF hz rfl (QQ w.params fr d it acc l xs.length ep k vs x0 Z V)
theorem mR {Fn:bw}(hkt:Sub (KF w.params) Fn)(fr d it acc l epl:Nat)(xs:List Value)(hl:Fn l (aa epl xs))(hn:xs.length≤50000){ds:List (List Nat)}(hx:All2 (fun x dd=>yC x dd) xs ds)(Z V:Nat):
  ∃(cur:Option Value) (o:CompOut),((xs=[]∧cur=none)∨(xs≠[]∧∃v,cur=some v))∧Z≤o.Z∧aW o.X Z∧All2 (fun dd v=>(fun dd v F=>j0 F v [dd]) dd v (aj Fn o.X)) ds o.vs∧bu aH w J dr os Fn (cC 900 (dK (Ax w.params) (Bb w.params fr d) it acc) bz d it l acc xs.length cur o) Z V:=by
 refine gh (Out:=fun dd v F=>j0 F v [dd]) (by kernel_rfl) hx hn (fun _ _ _ _ h=>j0.mono h) (fun i x dd cur ep vs Fr Z V hxi hin hlen hF=>?_) (fun cur ep vs Fr Z V hF=>?_) Z V
 ·obtain⟨t,rfl⟩:=hin
  refine⟨(.ref Z),aB ep vs (.ref Z),aj (fun _ _=>False) (bG [(Z,aa 0 [(.str (nm dd) t)])]),Z+1,V+1,Nat.le_add_right _ _,(aW.none _).or (aW.frL (by intro q hq;rw[List.mem_singleton] at hq;subst hq;show Z≤_;lia)),⟨Z,0,[(dd,t)],rfl,.inr (.inr (.head _)),rfl⟩,fun k=>?_⟩
  have ant:∀Fz,Sub Fr Fz→aA aH w J dr os Fz (dR it l i (.str (nm dd) t) (bZ 4 acc ep vs (.ref Z) (.nil))):=fun Fz hz=>jt (hz _ _ (hF _ _ hl)) hxi (eO hlen trivial)
  cases cur with
  |none=>
   exact dz (qG w.params dd t fr d it acc l i ep k vs Z V) rfl (hkt.trans hF) (fun _ q=>(nomatch q)) ant
  |some x0=>
   exact dz (qI w.params dd t fr d it acc l i ep k vs x0 Z V) rfl (hkt.trans hF) (fun _ q=>(nomatch q)) ant
 ·refine⟨Z+2,V,by lia,fun k Fz hz=>?_⟩
  cases cur with
  |none=>
   exact cP hl hkt hF hz rfl (RZ w.params fr d it acc l xs.length ep k vs Z V)
  |some x0=>
   exact cP hl hkt hF hz rfl (Io w.params fr d it acc l xs.length ep k vs x0 Z V)
theorem kZ {Fn:bw}(hkt:Sub (KF w.params) Fn)(fr d it acc l epl:Nat)(xs:List Value)(hl:Fn l (aa epl xs))(hn:xs.length≤50000){ds:List (List Nat)}(hx:All2 (fun x dd=>yC x dd) xs ds)(Z V:Nat):
  ∃(cur:Option Value) (o:CompOut),((xs=[]∧cur=none)∨(xs≠[]∧∃v,cur=some v))∧Z≤o.Z∧aW o.X Z∧All2 (fun dd v=>(fun dd v F=>j0 F v [dd]) dd v (aj Fn o.X)) ds o.vs∧bu aH w J dr os Fn (cC 900 (dK (ux w.params) (vp w.params fr d) it acc) bz d it l acc xs.length cur o) Z V:=by
 refine gh (Out:=fun dd v F=>j0 F v [dd]) (by kernel_rfl) hx hn (fun _ _ _ _ h=>j0.mono h) (fun i x dd cur ep vs Fr Z V hxi hin hlen hF=>?_) (fun cur ep vs Fr Z V hF=>?_) Z V
 ·obtain⟨t,rfl⟩:=hin
  refine⟨(.ref Z),aB ep vs (.ref Z),aj (fun _ _=>False) (bG [(Z,aa 0 [(.str (nm dd) t)])]),Z+1,V+1,Nat.le_add_right _ _,(aW.none _).or (aW.frL (by intro q hq;rw[List.mem_singleton] at hq;subst hq;show Z≤_;lia)),⟨Z,0,[(dd,t)],rfl,.inr (.inr (.head _)),rfl⟩,fun k=>?_⟩
  have ant:∀Fz,Sub Fr Fz→aA aH w J dr os Fz (dR it l i (.str (nm dd) t) (bZ 4 acc ep vs (.ref Z) (.nil))):=fun Fz hz=>jt (hz _ _ (hF _ _ hl)) hxi (eO hlen trivial)
  cases cur with
  |none=>
   exact dz (Mx w.params dd t fr d it acc l i ep k vs Z V) rfl (hkt.trans hF) (fun _ q=>(nomatch q)) ant
  |some x0=>
   exact dz (M8 w.params dd t fr d it acc l i ep k vs x0 Z V) rfl (hkt.trans hF) (fun _ q=>(nomatch q)) ant
 ·refine⟨Z+2,V,by lia,fun k Fz hz=>?_⟩
  cases cur with
  |none=>
   exact cP hl hkt hF hz rfl (N5 w.params fr d it acc l xs.length ep k vs Z V)
  |some x0=>
   exact cP hl hkt hF hz rfl (Nh w.params fr d it acc l xs.length ep k vs x0 Z V)
theorem mV {Fn:bw}(hkt:Sub (KF w.params) Fn)(fr d it acc l epl:Nat)(xs:List Value)(hl:Fn l (aa epl xs))(hn:xs.length≤50000){ds:List (List (List Nat))}(hx:All2 (fun x dd=>j0 Fn x dd∧cR [47] dd≤100000) xs ds)(Z V:Nat):
  ∃(cur:Option Value) (o:CompOut),((xs=[]∧cur=none)∨(xs≠[]∧∃v,cur=some v))∧Z≤o.Z∧aW o.X Z∧All2 (fun dd v=>(fun dd v _=>yC v (ao [47] dd)) dd v (aj Fn o.X)) ds o.vs∧bu aH w J dr os Fn (cC 900 (dK (Nk w.params) (Oh w.params fr d) it acc) gP d it l acc xs.length cur o) Z V:=by
 refine gh (Out:=fun dd v _=>yC v (ao [47] dd)) (by kernel_rfl) hx hn (fun _ _ _ _ _ h=>h) (fun i x dd cur ep vs Fr Z V hxi hin hlen hF=>?_) (fun cur ep vs Fr Z V hF=>?_) Z V
 ·obtain⟨⟨wa,epw,ps,rfl,hw,rfl⟩,hf⟩:=hin
  refine⟨(.str (nm (ao [47] (aF ps))) (jT ps (V+2))),aB ep vs (.str (nm (ao [47] (aF ps))) (jT ps (V+2))),aj (fun _ _=>False) (bG []),Z+0,jK ps (V+2),Nat.le_add_right _ _,(aW.none _).or (aW.frL (fun _ h=>(nomatch h))),⟨_,rfl⟩,fun k=>?_⟩
  have ant:∀Fz,Sub Fr Fz→aA aH w J dr os Fz (dR it l i (.ref wa) (dF 0 [] [47] wa ps (bZ 4 acc ep vs (.str (nm (ao [47] (aF ps))) (jT ps (V+2))) (.nil)))):=fun Fz hz=>jt (hz _ _ (hF _ _ hl)) hxi (lL (.inl (hz _ _ (hF _ _ hw))) hf (eO hlen trivial))
  cases cur with
  |none=>
   exact dz (RW w.params wa ps fr d it acc l i ep k vs Z V) rfl (hkt.trans hF) (fun _ q=>(nomatch q)) ant
  |some x0=>
   exact dz (Qq w.params wa ps fr d it acc l i ep k vs x0 Z V) rfl (hkt.trans hF) (fun _ q=>(nomatch q)) ant
 ·refine⟨Z+2,V,by lia,fun k Fz hz=>?_⟩
  cases cur with
  |none=>
   exact cP hl hkt hF hz rfl (Ru w.params fr d it acc l xs.length ep k vs Z V)
  |some x0=>
   exact cP hl hkt hF hz rfl (Qt w.params fr d it acc l xs.length ep k vs x0 Z V)
theorem mX {Fn:bw}(hkt:Sub (KF w.params) Fn)(fr d it acc l epl ca:Nat)(xs:List Value)(hl:Fn l (aa epl xs))(hn:xs.length≤50000)(mt mk:Nat)(hc:Fn ca (bU (.str (nm [mk]) mt))){ds:List (List Nat)}(hx:All2 (fun x dd=>yC x dd∧dd.length≤50000) xs ds)(Z V:Nat):
  ∃(cur:Option Value) (o:CompOut),((xs=[]∧cur=none)∨(xs≠[]∧∃v,cur=some v))∧Z≤o.Z∧aW o.X Z∧All2 (fun dd v=>(fun dd v _=>yC v ([mk]++dd++[mk])) dd v (aj Fn o.X)) ds o.vs∧bu aH w J dr os Fn (cC 900 (dK (JM w.params) (K6 w.params fr ca d) it acc) qm d it l acc xs.length cur o) Z V:=by
 refine gh (Out:=fun dd v _=>yC v ([mk]++dd++[mk])) (by kernel_rfl) hx hn (fun _ _ _ _ _ h=>h) (fun i x dd cur ep vs Fr Z V hxi hin hlen hF=>?_) (fun cur ep vs Fr Z V hF=>?_) Z V
 ·obtain⟨⟨t,rfl⟩,hf⟩:=hin
  refine⟨(.str (nm ([mk]++dd++[mk])) (aY ([mk]++dd) [mk] (aY [mk] dd mt t (V+1)) mt (eN [mk] dd (V+1)))),aB ep vs (.str (nm ([mk]++dd++[mk])) (aY ([mk]++dd) [mk] (aY [mk] dd mt t (V+1)) mt (eN [mk] dd (V+1)))),aj (fun _ _=>False) (bG []),Z+0,eN ([mk]++dd) [mk] (eN [mk] dd (V+1)),Nat.le_add_right _ _,(aW.none _).or (aW.frL (fun _ h=>(nomatch h))),⟨_,rfl⟩,fun k=>?_⟩
  have ant:∀Fz,Sub Fr Fz→aA aH w J dr os Fz (dR it l i (.str (nm dd) t) (dB [mk] dd (dB ([mk]++dd) [mk] (bZ 4 acc ep vs (.str (nm ([mk]++dd++[mk])) (aY ([mk]++dd) [mk] (aY [mk] dd mt t (V+1)) mt (eN [mk] dd (V+1)))) (.nil))))):=fun Fz hz=>jt (hz _ _ (hF _ _ hl)) hxi (jZ (by show 1+dd.length≤_;lia) (jZ (by rw[List.length_append];show 1+dd.length+1≤_;lia) (eO hlen trivial)))
  cases cur with
  |none=>
   exact dz (P0 w.params ca mt t mk dd fr d it acc l i ep k vs Z V) rfl (hkt.trans hF) (fun q hq=>by rw[List.mem_singleton] at hq;subst hq;exact hF _ _ hc) ant
  |some x0=>
   exact dz (QT w.params ca mt t mk dd fr d it acc l i ep k vs x0 Z V) rfl (hkt.trans hF) (fun q hq=>by rw[List.mem_singleton] at hq;subst hq;exact hF _ _ hc) ant
 ·refine⟨Z+2,V,by lia,fun k Fz hz=>?_⟩
  cases cur with
  |none=>
   exact cP hl hkt hF hz rfl (Qp w.params ca fr d it acc l xs.length ep k vs Z V)
  |some x0=>
   exact cP hl hkt hF hz rfl (R6 w.params ca fr d it acc l xs.length ep k vs x0 Z V)
theorem nJ {Fn:bw}(hkt:Sub (KF w.params) Fn)(fr d it acc l epl ca:Nat)(xs:List Value)(hl:Fn l (aa epl xs))(hn:xs.length≤50000)(mt mk:Nat)(hc:Fn ca (bU (.str (nm [mk]) mt))){ds:List (List (List Nat))}(hx:All2 (fun x dd=>j0 Fn x dd∧cR [mk,32,mk] dd≤100000) xs ds)(Z V:Nat):
  ∃(cur:Option Value) (o:CompOut),((xs=[]∧cur=none)∨(xs≠[]∧∃v,cur=some v))∧Z≤o.Z∧aW o.X Z∧All2 (fun dd v=>(fun dd v _=>yC v (ao [mk,32,mk] dd)) dd v (aj Fn o.X)) ds o.vs∧bu aH w J dr os Fn (cC 900 (dK (GK w.params) (H7 w.params fr ca d) it acc) nA d it l acc xs.length cur o) Z V:=by
 refine gh (Out:=fun dd v _=>yC v (ao [mk,32,mk] dd)) (by kernel_rfl) hx hn (fun _ _ _ _ _ h=>h) (fun i x dd cur ep vs Fr Z V hxi hin hlen hF=>?_) (fun cur ep vs Fr Z V hF=>?_) Z V
 ·obtain⟨⟨wa,epw,ps,rfl,hw,rfl⟩,hf⟩:=hin
  refine⟨(.str (nm (ao [mk,32,mk] (aF ps))) (jT ps (V+4))),aB ep vs (.str (nm (ao [mk,32,mk] (aF ps))) (jT ps (V+4))),aj (fun _ _=>False) (bG []),Z+0,jK ps (V+4),Nat.le_add_right _ _,(aW.none _).or (aW.frL (fun _ h=>(nomatch h))),⟨_,rfl⟩,fun k=>?_⟩
  have ant:∀Fz,Sub Fr Fz→aA aH w J dr os Fz (dR it l i (.ref wa) (dB [mk] [32] (dB [mk,32] [mk] (dF 0 [] [mk,32,mk] wa ps (bZ 4 acc ep vs (.str (nm (ao [mk,32,mk] (aF ps))) (jT ps (V+4))) (.nil)))))):=fun Fz hz=>jt (hz _ _ (hF _ _ hl)) hxi (jZ (by show 1+1≤_;decide) (jZ (by show 2+1≤_;decide) (lL (.inl (hz _ _ (hF _ _ hw))) hf (eO hlen trivial))))
  cases cur with
  |none=>
   exact dz (Qa w.params ca mt mk wa ps fr d it acc l i ep k vs Z V) rfl (hkt.trans hF) (fun q hq=>by rw[List.mem_singleton] at hq;subst hq;exact hF _ _ hc) ant
  |some x0=>
   exact dz (QG w.params ca mt mk wa ps fr d it acc l i ep k vs x0 Z V) rfl (hkt.trans hF) (fun q hq=>by rw[List.mem_singleton] at hq;subst hq;exact hF _ _ hc) ant
 ·refine⟨Z+2,V,by lia,fun k Fz hz=>?_⟩
  cases cur with
  |none=>
   exact cP hl hkt hF hz rfl (Rn w.params ca fr d it acc l xs.length ep k vs Z V)
  |some x0=>
   exact cP hl hkt hF hz rfl (Sd w.params ca fr d it acc l xs.length ep k vs x0 Z V)
theorem nY {Fn:bw}(hkt:Sub (KF w.params) Fn)(fr d it acc l epl ca:Nat)(xs:List Value)(hl:Fn l (aa epl xs))(hn:xs.length≤50000)(ta ept:Nat)(tv:List Value)(hc:Fn ca (bU (.ref ta)))(hta:Fn ta (aa ept tv)){ds:List (List Nat)}(hx:All2 (fun x dd=>∃(k:Nat) (t u:Nat),x=.int (k:Int) t∧tv[k]?=some (.str (nm dd) u)∧k≤100000) xs ds)(Z V:Nat):
  ∃(cur:Option Value) (o:CompOut),((xs=[]∧cur=none)∨(xs≠[]∧∃v,cur=some v))∧Z≤o.Z∧aW o.X Z∧All2 (fun dd v=>(fun dd v _=>yC v (id dd)) dd v (aj Fn o.X)) ds o.vs∧bu aH w J dr os Fn (cC 900 (dK (Dl w.params) (Gg w.params fr ca d) it acc) vK d it l acc xs.length cur o) Z V:=by
 refine gh (Out:=fun dd v _=>yC v (id dd)) (by kernel_rfl) hx hn (fun _ _ _ _ _ h=>h) (fun i x dd cur ep vs Fr Z V hxi hin hlen hF=>?_) (fun cur ep vs Fr Z V hF=>?_) Z V
 ·refine gw hin fun ki kt xt er1 hy hk=>?_;subst er1
  refine⟨(.str (nm dd) xt),aB ep vs (.str (nm dd) xt),aj (fun _ _=>False) (bG []),Z+0,V+1,Nat.le_add_right _ _,(aW.none _).or (aW.frL (fun _ h=>(nomatch h))),⟨xt,rfl⟩,fun k=>?_⟩
  have ant:∀Fz,Sub Fr Fz→aA aH w J dr os Fz (dR it l i (.int (ki:Int) kt) (aX 0 [] ta (ki:Int) (.str (nm dd) xt) (bZ 4 acc ep vs (.str (nm dd) xt) (.nil)))):=fun Fz hz=>jt (hz _ _ (hF _ _ hl)) hxi (ie (.inl (hz _ _ (hF _ _ hta))) (Int.natCast_nonneg ki) (by have e:(2:Int) ^ 63=9223372036854775808:=rfl;rw[e];lia) hy (eO hlen trivial))
  cases cur with
  |none=>
   exact dz (Qf w.params ca ta ept kt xt (ki:Int) dd tv fr d it acc l i ep k vs Z V) rfl (hkt.trans hF) (fun q hq=>by simp only[List.mem_cons,List.not_mem_nil,or_false] at hq;rcases hq with rfl|rfl<;>first|exact hF _ _ hc|exact hF _ _ hta) ant
  |some x0=>
   exact dz (RT w.params ca ta ept kt xt (ki:Int) dd tv fr d it acc l i ep k vs x0 Z V) rfl (hkt.trans hF) (fun q hq=>by simp only[List.mem_cons,List.not_mem_nil,or_false] at hq;rcases hq with rfl|rfl<;>first|exact hF _ _ hc|exact hF _ _ hta) ant
 ·refine⟨Z+2,V,by lia,fun k Fz hz=>?_⟩
  cases cur with
  |none=>
   exact cP hl hkt hF hz rfl (QV w.params ca fr d it acc l xs.length ep k vs Z V)
  |some x0=>
   exact cP hl hkt hF hz rfl (Q4 w.params ca fr d it acc l xs.length ep k vs x0 Z V)
theorem lA {Fn:bw}(hkt:Sub (KF w.params) Fn)(fr d it acc l epl ca:Nat)(xs:List Value)(hl:Fn l (aa epl xs))(hn:xs.length≤50000)(ta ept:Nat)(tv:List Value)(hc:Fn ca (bU (.ref ta)))(hta:Fn ta (aa ept tv)){ds:List (List Nat)}(hx:All2 (fun x dd=>∃(k:Nat) (t u:Nat),x=.int (k:Int) t∧tv[k]?=some (.str (nm dd) u)∧k≤100000) xs ds)(Z V:Nat):
  ∃(cur:Option Value) (o:CompOut),((xs=[]∧cur=none)∨(xs≠[]∧∃v,cur=some v))∧Z≤o.Z∧aW o.X Z∧All2 (fun dd v=>(fun dd v _=>yC v (id dd)) dd v (aj Fn o.X)) ds o.vs∧bu aH w J dr os Fn (cC 900 (dK (sy w.params) (tH w.params fr ca d) it acc) vK d it l acc xs.length cur o) Z V:=by
 refine gh (Out:=fun dd v _=>yC v (id dd)) (by kernel_rfl) hx hn (fun _ _ _ _ _ h=>h) (fun i x dd cur ep vs Fr Z V hxi hin hlen hF=>?_) (fun cur ep vs Fr Z V hF=>?_) Z V
 ·refine gw hin fun ki kt xt er2 hy hk=>?_;subst er2
  refine⟨(.str (nm dd) xt),aB ep vs (.str (nm dd) xt),aj (fun _ _=>False) (bG []),Z+0,V+1,Nat.le_add_right _ _,(aW.none _).or (aW.frL (fun _ h=>(nomatch h))),⟨xt,rfl⟩,fun k=>?_⟩
  have ant:∀Fz,Sub Fr Fz→aA aH w J dr os Fz (dR it l i (.int (ki:Int) kt) (aX 0 [] ta (ki:Int) (.str (nm dd) xt) (bZ 4 acc ep vs (.str (nm dd) xt) (.nil)))):=fun Fz hz=>jt (hz _ _ (hF _ _ hl)) hxi (ie (.inl (hz _ _ (hF _ _ hta))) (Int.natCast_nonneg ki) (by have e:(2:Int) ^ 63=9223372036854775808:=rfl;rw[e];lia) hy (eO hlen trivial))
  cases cur with
  |none=>
   exact dz (NK w.params ca ta ept kt xt (ki:Int) dd tv fr d it acc l i ep k vs Z V) rfl (hkt.trans hF) (fun q hq=>by simp only[List.mem_cons,List.not_mem_nil,or_false] at hq;rcases hq with rfl|rfl<;>first|exact hF _ _ hc|exact hF _ _ hta) ant
  |some x0=>
   exact dz (Lp w.params ca ta ept kt xt (ki:Int) dd tv fr d it acc l i ep k vs x0 Z V) rfl (hkt.trans hF) (fun q hq=>by simp only[List.mem_cons,List.not_mem_nil,or_false] at hq;rcases hq with rfl|rfl<;>first|exact hF _ _ hc|exact hF _ _ hta) ant
 ·refine⟨Z+2,V,by lia,fun k Fz hz=>?_⟩
  cases cur with
  |none=>
   exact cP hl hkt hF hz rfl (Ml w.params ca fr d it acc l xs.length ep k vs Z V)
  |some x0=>
   exact cP hl hkt hF hz rfl (K8 w.params ca fr d it acc l xs.length ep k vs x0 Z V)
theorem gM {Fn:bw}(hkt:Sub (KF w.params) Fn)(fr d it acc l epl:Nat)(xs:List Value)(hl:Fn l (aa epl xs))(hn:xs.length≤50000)(f:List Nat→List Nat){ds:List (List Nat)}(hx:All2 (fun x dd=>∃t,x=.str (nm dd) t∧∀Z V,∃u sz1 tok1,Z≤sz1∧bu aH w J dr os Fn (qP 126 dd t (f dd) u sz1 tok1) Z V) xs ds)(Z V:Nat):
  ∃(cur:Option Value) (o:CompOut),((xs=[]∧cur=none)∨(xs≠[]∧∃v,cur=some v))∧Z≤o.Z∧aW o.X Z∧All2 (fun dd v=>(fun dd v _=>yC v (f dd)) dd v (aj Fn o.X)) ds o.vs∧bu aH w J dr os Fn (cC 500 (dK (K3 w.params) (NT w.params fr d) it acc) iT d it l acc xs.length cur o) Z V:=by
 refine gh (Out:=fun dd v _=>yC v (f dd)) (by kernel_rfl) hx hn (fun _ _ _ _ _ h=>h) (fun i x dd cur ep vs Fr Z V hxi hin hlen hF=>?_) (fun cur ep vs Fr Z V hF=>?_) Z V
 ·refine aL hin fun t er3 hc=>?_;subst er3
  refine du (hc Z (V+1)) fun u sz1 tok1 hle hans=>?_
  refine⟨(.str (nm (f dd)) u),aB ep vs (.str (nm (f dd)) u),aj (fun _ _=>False) (bG []),sz1,tok1,hle,(aW.none _).or (aW.frL (fun _ h=>(nomatch h))),⟨u,rfl⟩,fun k=>?_⟩
  have ant:∀Fz,Sub Fr Fz→aA aH w J dr os Fz (dR it l i (.str (nm dd) t) (bc 0 (qP 126 dd t (f dd) u sz1 tok1) Z (V+1) (bZ 4 acc ep vs (.str (nm (f dd)) u) (.nil)))):=fun Fz hz=>jt (hz _ _ (hF _ _ hl)) hxi (dO (hans.mono' (hF.trans hz)) (eO hlen trivial))
  cases cur with
  |none=>
   exact dz (R7 w.params dd (f dd) t u sz1 tok1 fr d it acc l i ep k vs Z V) rfl (hkt.trans hF) (fun _ q=>(nomatch q)) ant
  |some x0=>
   exact dz (RX w.params dd (f dd) t u sz1 tok1 fr d it acc l i ep k vs x0 Z V) rfl (hkt.trans hF) (fun _ q=>(nomatch q)) ant
 ·refine⟨Z+2,V,by lia,fun k Fz hz=>?_⟩
  cases cur with
  |none=>
   exact cP hl hkt hF hz rfl (RL w.params fr d it acc l xs.length ep k vs Z V)
  |some x0=>
   exact cP hl hkt hF hz rfl (PN w.params fr d it acc l xs.length ep k vs x0 Z V)
theorem fO {Fn:bw}(hkt:Sub (KF w.params) Fn)(fr d it acc l epl:Nat)(xs:List Value)(hl:Fn l (aa epl xs))(hn:xs.length≤50000)(f:List Nat→List Nat){ds:List (List Nat)}(hx:All2 (fun x dd=>∃t,x=.str (nm dd) t∧∀Z V,∃u sz1 tok1,Z≤sz1∧bu aH w J dr os Fn (qP 850 dd t (f dd) u sz1 tok1) Z V) xs ds)(Z V:Nat):
  ∃(cur:Option Value) (o:CompOut),((xs=[]∧cur=none)∨(xs≠[]∧∃v,cur=some v))∧Z≤o.Z∧aW o.X Z∧All2 (fun dd v=>(fun dd v _=>yC v (f dd)) dd v (aj Fn o.X)) ds o.vs∧bu aH w J dr os Fn (cC 500 (dK (yL w.params) (Ar w.params fr d) it acc) iT d it l acc xs.length cur o) Z V:=by
 refine gh (Out:=fun dd v _=>yC v (f dd)) (by kernel_rfl) hx hn (fun _ _ _ _ _ h=>h) (fun i x dd cur ep vs Fr Z V hxi hin hlen hF=>?_) (fun cur ep vs Fr Z V hF=>?_) Z V
 ·refine aL hin fun t er4 hc=>?_;subst er4
  refine du (hc Z (V+1)) fun u sz1 tok1 hle hans=>?_
  refine⟨(.str (nm (f dd)) u),aB ep vs (.str (nm (f dd)) u),aj (fun _ _=>False) (bG []),sz1,tok1,hle,(aW.none _).or (aW.frL (fun _ h=>(nomatch h))),⟨u,rfl⟩,fun k=>?_⟩
  have ant:∀Fz,Sub Fr Fz→aA aH w J dr os Fz (dR it l i (.str (nm dd) t) (bc 0 (qP 850 dd t (f dd) u sz1 tok1) Z (V+1) (bZ 4 acc ep vs (.str (nm (f dd)) u) (.nil)))):=fun Fz hz=>jt (hz _ _ (hF _ _ hl)) hxi (dO (hans.mono' (hF.trans hz)) (eO hlen trivial))
  cases cur with
  |none=>
   exact dz (Nu w.params dd (f dd) t u sz1 tok1 fr d it acc l i ep k vs Z V) rfl (hkt.trans hF) (fun _ q=>(nomatch q)) ant
  |some x0=>
   exact dz (MP w.params dd (f dd) t u sz1 tok1 fr d it acc l i ep k vs x0 Z V) rfl (hkt.trans hF) (fun _ q=>(nomatch q)) ant
 ·refine⟨Z+2,V,by lia,fun k Fz hz=>?_⟩
  cases cur with
  |none=>
   exact cP hl hkt hF hz rfl (Ln w.params fr d it acc l xs.length ep k vs Z V)
  |some x0=>
   exact cP hl hkt hF hz rfl (MK w.params fr d it acc l xs.length ep k vs x0 Z V)
theorem JC {Fn:bw}(hkt:Sub (KF w.params) Fn)(fr d it acc l epl:Nat)(xs:List Value)(hl:Fn l (aa epl xs))(hn:xs.length≤50000){ds:List (List (List Nat))}(hx:All2 (fun x dd=>j0 Fn x dd) xs ds)(Z V:Nat):
  ∃(cur:Option Value) (o:CompOut),((xs=[]∧cur=none)∨(xs≠[]∧∃v,cur=some v))∧Z≤o.Z∧aW o.X Z∧All2 (fun dd v=>(fun dd v F=>j0 F v (if dd=[] then [[]] else dd)) dd v (aj Fn o.X)) ds o.vs∧bu aH w J dr os Fn (cC 900 (dK (tV w.params) (uc w.params fr d) it acc) gP d it l acc xs.length cur o) Z V:=by
 refine gh (Out:=fun dd v F=>j0 F v (if dd=[] then [[]] else dd)) (by kernel_rfl) hx hn (fun _ _ _ _ h=>j0.mono h) (fun i x dd cur ep vs Fr Z V hxi hin hlen hF=>?_) (fun cur ep vs Fr Z V hF=>?_) Z V
 ·refine gw hin fun wa epw ps er5 hw er6=>?_;subst er5;subst er6
  by_cases he:aF ps=[]
  ·refine⟨(.ref (Z+1)),aB ep vs (.ref (Z+1)),aj (fun _ _=>False) (bG [(Z+1,aa 0 [.str (nm []) (V+1)])]),Z+2,V+2,Nat.le_add_right _ _,(aW.none _).or (aW.frL (by intro q hq;rw[List.mem_singleton] at hq;subst hq;show Z≤_;lia)),by rw[if_pos he];exact⟨Z+1,0,[([],V+1)],rfl,.inr (.inr (.head _)),rfl⟩,fun k=>?_⟩
   have ant:∀Fz,Sub Fr Fz→aA aH w J dr os Fz (dR it l i (.ref wa) (qR 8 (fun _=>[(Z,aa 0 (tvs []))]) wa Z false (bZ 4 acc ep vs (.ref (Z+1)) (.nil)))):=fun Fz hz=>jt (hz _ _ (hF _ _ hl)) hxi (uT (ts:=aF ps) (us:=[]) (fun _=>⟨epw,ps,rfl,.inl (hz _ _ (hF _ _ hw))⟩) (fun _=>⟨0,[],rfl,.inr (.head _)⟩) (by rw[he];rfl) (eO hlen trivial))
   cases cur with
   |none=>
    exact dz (Nv w.params wa epw ps fr d it acc l i ep k vs Z V) rfl (hkt.trans hF) (fun q hq=>by rw[List.mem_singleton] at hq;subst hq;exact hF _ _ hw) ant
   |some x0=>
    exact dz (Lk w.params wa epw ps fr d it acc l i ep k vs x0 Z V) rfl (hkt.trans hF) (fun q hq=>by rw[List.mem_singleton] at hq;subst hq;exact hF _ _ hw) ant
  ·refine⟨(.ref wa),aB ep vs (.ref wa),aj (fun _ _=>False) (bG []),Z+1,V+1,Nat.le_add_right _ _,(aW.none _).or (aW.frL (fun _ h=>(nomatch h))),by rw[if_neg he];exact⟨wa,epw,ps,rfl,.inl (hF _ _ hw),rfl⟩,fun k=>?_⟩
   have ant:∀Fz,Sub Fr Fz→aA aH w J dr os Fz (dR it l i (.ref wa) (qR 8 (fun _=>[(Z,aa 0 (tvs []))]) wa Z true (bZ 4 acc ep vs (.ref wa) (.nil)))):=fun Fz hz=>jt (hz _ _ (hF _ _ hl)) hxi (uT (ts:=aF ps) (us:=[]) (fun _=>⟨epw,ps,rfl,.inl (hz _ _ (hF _ _ hw))⟩) (fun _=>⟨0,[],rfl,.inr (.head _)⟩) (by cases hc:jH (aF ps) [] with|false=>rfl|true=>exact absurd (jR.mp hc) he) (eO hlen trivial))
   cases cur with
   |none=>
    exact dz (Mz w.params wa epw ps fr d it acc l i ep k vs Z V) rfl (hkt.trans hF) (fun q hq=>by rw[List.mem_singleton] at hq;subst hq;exact hF _ _ hw) ant
   |some x0=>
    exact dz (Nx w.params wa epw ps fr d it acc l i ep k vs x0 Z V) rfl (hkt.trans hF) (fun q hq=>by rw[List.mem_singleton] at hq;subst hq;exact hF _ _ hw) ant
 ·refine⟨Z+2,V,by lia,fun k Fz hz=>?_⟩
  cases cur with
  |none=>
   exact cP hl hkt hF hz rfl (Ss w.params fr d it acc l xs.length ep k vs Z V)
  |some x0=>
   exact cP hl hkt hF hz rfl (Ql w.params fr d it acc l xs.length ep k vs x0 Z V)
end
end
section
theorem All2.withP {α β:Type}{R:α→β→Prop}{P:β→Prop}:∀{l:List α} {m:List β},All2 R l m→(∀b∈m,P b)→All2 (fun a b=>R a b∧P b) l m:=fun k hp=>by
 induction k with
 |nil=>exact .nil
 |cons h t ih=>exact .cons ⟨h,hp _ (.head _)⟩ (ih fun b hb=>hp b (.tail _ hb))
theorem uA (ps:List (List Nat×Nat))(i:Nat):(tvs ps)[i]?=(ps[i]?).map fun p=>.str (nm p.1) p.2:=by
 unfold tvs
 rw[List.getElem?_map]
theorem cJ (ps:List (List Nat×Nat)):(aF ps).length=ps.length:=List.length_map ..
theorem aG (ps:List (List Nat×Nat)):(tvs ps).length=ps.length:=List.length_map ..
theorem dD:∀ps:List (List Nat×Nat),All2 yC (tvs ps) (aF ps)
 |[]=>.nil
 |p::ps=>.cons ⟨p.2,rfl⟩ (dD ps)
section
variable {w:World} {J:Array GenState} {dr:Drawn} {os:Osw} {F Fn X Xf:bw} {Z V Z' V':Nat} {lim n h m:Nat} {c:Code} {f:Flow} {ro b:Led} {ant:Ant} {R:Res}
theorem oh (hR:run w.params lim n h c [] Z V ro ant=R)(H:vw R m=(true,true,.done f,[]++b,rights (cH R)))(hs:dw R=Z')(ht:bk R=V')(hX:rF R=Xf)(hXs:Sub X Xf)(hnew:aW X Z)(hb:∀p∈b,Z≤p.1)(hkt:Sub (KF w.params) Fn)(hro:∀p∈ro,Fn p.1 p.2)(hant:∀Fz,Sub Fn Fz→aA aH w J dr os Fz ant):bu aH w J dr os Fn ⟨c,lim,[],.ok f,[],[],aj X (bG b),[],Z',V'⟩ Z V:=by
 refine⟨hnew.or (aW.frL hb),fun _ q=>(nomatch q),fun Fz hF=>?_⟩
 exact iz (F:=Fz) (X:=X) (a:=[]) (b:=b) hR H hs ht (hX▸hXs) (fun a o q=>hF _ _ (hkt a o q)) (fun p hp=>hF _ _ (hro p hp)) (hant Fz hF)
theorem gZ (hR:run w.params lim n h c [] Z V ro ant=R)(H:vw R m=(true,true,.done f,[]++[],rights (cH R)))(hs:dw R=Z')(ht:bk R=V')(hkt:Sub (KF w.params) Fn)(hro:∀p∈ro,Fn p.1 p.2)(hant:∀Fz,Sub Fn Fz→aA aH w J dr os Fz ant):bu aH w J dr os Fn ⟨c,lim,[],.ok f,[],[],cQ,[],Z',V'⟩ Z V:=by
 refine⟨fun _ _ q=>q.elim,fun _ q=>(nomatch q),fun Fz hF=>?_⟩
 refine(iz (F:=Fz) (X:=cQ) (a:=[]) (b:=[]) hR H hs ht (Sub.no _) (fun a o q=>hF _ _ (hkt a o q)) (fun p hp=>hF _ _ (hro p hp)) (hant Fz hF)).post fun s r=>?_
 exact r.anti fun b o q=>q.elim .inl fun q=>q.elim
end
noncomputable def ju (m:Nat)(f:Led→Ans)(Z V:Nat):An:=fun k=>.fix m f Z V fun _=>k
noncomputable def dU (m it l i:Nat)(x:Value):An:=fun k=>.cons m (fun _ _ Z V=>XJ it l i x Z V) fun _ _ _ _=>k
noncomputable def xK (m it l i:Nat):An:=fun k=>.cons m (fun _ _ Z V=>X7 it l i Z V) fun _ _ _ _=>k
section
variable {w:World} {J:Array GenState} {dr:Drawn} {os:Osw} {F:bw} {Z V Z' V':Nat}
theorem gO {m it l i ep:Nat}{vs:List Value}{x:Value}{k:Ant}(hl:F l (aa ep vs))(hx:vs[i]?=some x)(hk:aA aH w J dr os F k):aA aH w J dr os F (dU m it l i x k):=
 aV (fun _ _ _ _=>rfl) (fun _ _ _ _=>Ek hl hx) hk
theorem vm {m it l i ep:Nat}{vs:List Value}{k:Ant}(hl:F l (aa ep vs))(hx:vs[i]?=none)(hk:aA aH w J dr os F k):aA aH w J dr os F (xK m it l i k):=
 aV (fun _ _ _ _=>rfl) (fun _ _ _ _=>Ge hl hx) hk
theorem ye {c:Code}{lim:Nat}{led led':Led}{r:Result}{objs objs':List Obj}{X:bw}(h:bu aH w J dr os F ⟨c,lim,led,r,objs,[],X,[],Z',V'⟩ Z V)(hp:led'.Perm led)(hq:(gQ led objs).Perm (gQ led' objs')):
  bu aH w J dr os F ⟨c,lim,led',r,objs',[],X,[],Z',V'⟩ Z V:=by
 refine aK h fun h1 h2 h3=>?_
 refine⟨h1,h2,fun Fz hF=>?_⟩
 have:=h3 Fz hF
 simp only[List.append_nil] at this ⊢
 exact this.perm hp hq
end
end
section
open PySem.SeqAt
open Builtin Builtin.Str
noncomputable def uI (m t:Nat)(a b x:Int)(r:Bool):An:=fun kk=>.cons m (fun c g Z V=>lJ (.builtin "tuple.__contains__" ⟨[.ref t,.int x (bH c 1)],[]⟩) [(t,iY [.int a (cZ (au g 0) 0),.int b (cZ (au g 0) 1)])] (.bool r) Z (V+0)) fun _ _ _ _=>kk
noncomputable def tM (x y d:Int):An:=fun kk=>.cons 0 (fun c _ Z V=>lJ (.builtin "int.__add__" ⟨[.int x (bH c 0),.int y (bH c 1)],[]⟩) [] (.int d V) Z (V+1)) fun _ _ _ _=>kk
section
variable {w:World} {J:Array GenState} {dr:Drawn} {os:Osw} {F:bw} {kk:Ant}
theorem wk {x y d:Int}(h:x+y=d)(hk:aA aH w J dr os F kk):aA aH w J dr os F (tM x y d kk):=
 aV (fun _ _ _ _=>rfl) (fun c _ _ V=>dN (n:=1) fun _ _ s R _ _ _ r z=>gW (entryFor_of_fast (by kernel_rfl)) (by decide +kernel) (h▸gives_int_add x y (bH c 0) (bH c 1)) (by show R _ _;rw[r.toks];exact(r.toks▸z:R _ {s with toks:=V+1}))) hk
theorem PT {m t:Nat}{a b x:Int}{r:Bool}(h:(a==x||b==x)=r)(hk:aA aH w J dr os F kk):aA aH w J dr os F (uI m t a b x r kk):=
 aV (fun _ _ _ _=>rfl) (fun c g _ _=>dN (n:=0) fun Fz A s R hF hU _ rl z=>by
  have gt:=rl.own _ (.head _)
  have et:iY [.int a (cZ (au g 0) 0),.int b (cZ (au g 0) 1)]={cls:=.type "tuple",dict:=none,data:=.seq ⟨[.int a (cZ (au g 0) 0),.int b (cZ (au g 0) 1)]⟩ 0,slots:=#[]}:=by
   unfold iY
   rw[Du]
  simp only at gt
  rw[et] at gt
  refine bj PySem.F.entry_tuple_contains (by decide +kernel) (MeetsSeq2.tuple_contains t ⟨[.int a (cZ (au g 0) 0),.int b (cZ (au g 0) 1)]⟩ 0 (.int x (bH c 1)) (fun v=>match v with|.int y _=>y==x|_=>false) ?_) ⟨gt,?_⟩
  ·intro y hy
   simp only[List.mem_toArray,List.mem_cons,List.not_mem_nil,or_false] at hy
   rcases hy with rfl|rfl
   ·exact MeetsSeq.EqGives.int a x _ _
   ·exact MeetsSeq.EqGives.int b x _ _
  ·rw[←h] at z
   simpa using z) hk
end
end
noncomputable def Ms:Str:=nm [109,97,114,107,101,100]
noncomputable def IV:Str:=nm [100,101,98,116]
noncomputable def I9:Str:=nm [108,101,102,116]
noncomputable def Uj:Str:=nm [110,97,109,101]
noncomputable def Zg (t:Tks)(ia:Nat)(mk:Bool)(dd:Int)(la:Nat):List (Str×Value):=[(ym,.ref ia),(Ms,.bool mk),(IV,.int dd (t 2)),(I9,.ref la)]
noncomputable def nH (k:Hk)(t:Tks)(ia:Nat)(mk:Bool)(dd:Int)(la:Nat)(cur:Option (Int×Bool)):Obj:=match cur with
 |none=>nZ iD k 4 (Zg t ia mk dd la)
 |some p=>nZ iD k 6 (Zg t ia mk dd la++[(vK,.int p.1 (t 4)),(Uj,.bool p.2)])
noncomputable def oO (P:Params)(fr it:Nat):Code:=Jq (stOf P 838 2) it (envOf P 838 fr Vl [])
theorem Cw P fr la it ia epi ka epk ep k t vsI pk vs x dd (d2:Int) n (n1:Int) (m:Int) mk Z V:Fa (bh P none 900 84 Uy (oO P fr it) [(fr,nH k t ia mk dd la none),(la,aa ep vs),(it,j8 x (x+1))] Z V [(ia,aa epi vsI),(ka,aa epk (tvs pk))] (jQ 4 it x (x+1) (aX 0 [] ia x (.ref ka) (cB 0 [] ka n (jL n 1 true (jL dd 0 false (vI 2 la ep vs (.int x V) (.nil)))))))) 7 (.again (oO P fr it)) (fun R=>[(fr,nH (ak R 0) (aq R 0) ia mk dd la (some (x,true))),(la,aa (gj ep vs (uG (.int x V))) (.int x V::vs)),(it,j8 (x-1) (x+1-1))]++[]) (Z+0) (V+8):=⟨by kernel_rfl⟩
theorem Ce P fr la it ia epi ka epk ep k t vsI pk vs x dd (d2:Int) n n1 m Z V:Fa (bh P none 900 114 Ww (oO P fr it) [(fr,nH k t ia true dd la none),(la,aa ep vs),(it,j8 x (x+1))] Z V [(ia,aa epi vsI),(ka,aa epk (tvs pk))] (jQ 4 it x (x+1) (aX 0 [] ia x (.ref ka) (cB 0 [] ka n (jL n 1 false (cB 0 [] ia m (gY m 1 n1 (uI 8 Z 0 n1 x true (jL dd 0 false (vI 2 la ep vs (.int x V) (.nil))))))))))) 7 (.again (oO P fr it)) (fun R=>[(fr,nH (ak R 0) (aq R 0) ia true dd la (some (x,true))),(la,aa (gj ep vs (uG (.int x V))) (.int x V::vs)),(it,j8 (x-1) (x+1-1))]++[]) (Z+1) (V+13):=⟨by kernel_rfl⟩
theorem G4 P fr la it ia epi ka epk ep k t vsI pk vs x dd d2 n (n1:Int) (m:Int) Z V:Fa (bh P none 900 92 Tz (oO P fr it) [(fr,nH k t ia false dd la none),(la,aa ep vs),(it,j8 x (x+1))] Z V [(ia,aa epi vsI),(ka,aa epk (tvs pk))] (jQ 4 it x (x+1) (aX 0 [] ia x (.ref ka) (cB 0 [] ka n (jL n 1 false (aX 0 [] ia x (.ref ka) (pg 8 (fun g=>[(Z+0,aa 0 [.str (nm [46,46]) (cZ (au g 0) 0)])]) ka (Z+0) true (tM dd 1 d2 (.nil))))))))) 7 (.again (oO P fr it)) (fun R=>[(fr,nH (ak R 0) (aq R 0) ia false d2 la (some (x,false))),(la,aa ep vs),(it,j8 (x-1) (x+1-1))]++[]) (Z+1) (V+10):=⟨by kernel_rfl⟩
theorem HH P fr la it ia epi ka epk ep k t vsI pk vs x dd (d2:Int) n (n1:Int) (m:Int) Z V:Fa (bh P none 900 111 Vs (oO P fr it) [(fr,nH k t ia false dd la none),(la,aa ep vs),(it,j8 x (x+1))] Z V [(ia,aa epi vsI),(ka,aa epk (tvs pk))] (jQ 4 it x (x+1) (aX 0 [] ia x (.ref ka) (cB 0 [] ka n (jL n 1 false (aX 0 [] ia x (.ref ka) (pg 8 (fun g=>[(Z+0,aa 0 [.str (nm [46,46]) (cZ (au g 0) 0)])]) ka (Z+0) false (aX 0 [] ia x (.ref ka) (uO 112 (Z+3) (Z+1) (Z+2) ka (fun g=>[(Z+1,aa 0 [.str (nm []) (cZ (au g 0) 0)]),(Z+2,aa 0 [.str (nm [46]) (cZ (au g 1) 0)]),(Z+3,iY [.ref (Z+1),.ref (Z+2)])]) true (.nil)))))))))) 7 (.again (oO P fr it)) (fun R=>[(fr,nH (ak R 0) (aq R 0) ia false dd la (some (x,false))),(la,aa ep vs),(it,j8 (x-1) (x+1-1))]++[]) (Z+4) (V+9):=⟨by kernel_rfl⟩
theorem Hp P fr la it ia epi ka epk ep k t vsI pk vs x dd (d2:Int) n (n1:Int) (m:Int) Z V:Fa (bh P none 900 137 Tj (oO P fr it) [(fr,nH k t ia false dd la none),(la,aa ep vs),(it,j8 x (x+1))] Z V [(ia,aa epi vsI),(ka,aa epk (tvs pk))] (jQ 4 it x (x+1) (aX 0 [] ia x (.ref ka) (cB 0 [] ka n (jL n 1 false (aX 0 [] ia x (.ref ka) (pg 8 (fun g=>[(Z+0,aa 0 [.str (nm [46,46]) (cZ (au g 0) 0)])]) ka (Z+0) false (aX 0 [] ia x (.ref ka) (uO 112 (Z+3) (Z+1) (Z+2) ka (fun g=>[(Z+1,aa 0 [.str (nm []) (cZ (au g 0) 0)]),(Z+2,aa 0 [.str (nm [46]) (cZ (au g 1) 0)]),(Z+3,iY [.ref (Z+1),.ref (Z+2)])]) false (jL dd 0 false (vI 2 la ep vs (.int x V) (.nil)))))))))))) 7 (.again (oO P fr it)) (fun R=>[(fr,nH (ak R 0) (aq R 0) ia false dd la (some (x,false))),(la,aa (gj ep vs (uG (.int x V))) (.int x V::vs)),(it,j8 (x-1) (x+1-1))]++[]) (Z+4) (V+11):=⟨by kernel_rfl⟩
theorem Bv P fr la it ia epi ka epk ep k t vsI pk vs x dd (d2:Int) n (n1:Int) (m:Int) mk x0 b0 Z V:Fa (bh P none 900 84 Uy (oO P fr it) [(fr,nH k t ia mk dd la (some (x0,b0))),(la,aa ep vs),(it,j8 x (x+1))] Z V [(ia,aa epi vsI),(ka,aa epk (tvs pk))] (jQ 4 it x (x+1) (aX 0 [] ia x (.ref ka) (cB 0 [] ka n (jL n 1 true (jL dd 0 false (vI 2 la ep vs (.int x V) (.nil)))))))) 7 (.again (oO P fr it)) (fun R=>[(fr,nH (ak R 0) (aq R 0) ia mk dd la (some (x,true))),(la,aa (gj ep vs (uG (.int x V))) (.int x V::vs)),(it,j8 (x-1) (x+1-1))]++[]) (Z+0) (V+8):=⟨by kernel_rfl⟩
theorem zN P fr la it ia epi ka epk ep k t vsI pk vs x dd d2 n (n1:Int) (m:Int) mk x0 b0 Z V:Fa (bh P none 900 80 (hc (hc 0x1010100010100010101 176 v5) 8 2) (oO P fr it) [(fr,nH k t ia mk dd la (some (x0,b0))),(la,aa ep vs),(it,j8 x (x+1))] Z V [(ia,aa epi vsI),(ka,aa epk (tvs pk))] (jQ 4 it x (x+1) (aX 0 [] ia x (.ref ka) (cB 0 [] ka n (jL n 1 true (jL dd 0 true (gY dd 1 d2 (.nil)))))))) 7 (.again (oO P fr it)) (fun R=>[(fr,nH (ak R 0) (aq R 0) ia mk d2 la (some (x,true))),(la,aa ep vs),(it,j8 (x-1) (x+1-1))]++[]) (Z+0) (V+10):=⟨by kernel_rfl⟩
theorem Cz P fr la it ia epi ka epk ep k t vsI pk vs x dd (d2:Int) n n1 m x0 b0 Z V:Fa (bh P none 900 114 Ww (oO P fr it) [(fr,nH k t ia true dd la (some (x0,b0))),(la,aa ep vs),(it,j8 x (x+1))] Z V [(ia,aa epi vsI),(ka,aa epk (tvs pk))] (jQ 4 it x (x+1) (aX 0 [] ia x (.ref ka) (cB 0 [] ka n (jL n 1 false (cB 0 [] ia m (gY m 1 n1 (uI 8 Z 0 n1 x true (jL dd 0 false (vI 2 la ep vs (.int x V) (.nil))))))))))) 7 (.again (oO P fr it)) (fun R=>[(fr,nH (ak R 0) (aq R 0) ia true dd la (some (x,true))),(la,aa (gj ep vs (uG (.int x V))) (.int x V::vs)),(it,j8 (x-1) (x+1-1))]++[]) (Z+1) (V+13):=⟨by kernel_rfl⟩
theorem Ak P fr la it ia epi ka epk ep k t vsI pk vs x dd d2 n n1 m x0 b0 Z V:Fa (bh P none 900 110 (hc (hc (hc (hc 0x1010100010100 128 M6) 8 0) 176 v5) 8 2) (oO P fr it) [(fr,nH k t ia true dd la (some (x0,b0))),(la,aa ep vs),(it,j8 x (x+1))] Z V [(ia,aa epi vsI),(ka,aa epk (tvs pk))] (jQ 4 it x (x+1) (aX 0 [] ia x (.ref ka) (cB 0 [] ka n (jL n 1 false (cB 0 [] ia m (gY m 1 n1 (uI 8 Z 0 n1 x true (jL dd 0 true (gY dd 1 d2 (.nil))))))))))) 7 (.again (oO P fr it)) (fun R=>[(fr,nH (ak R 0) (aq R 0) ia true d2 la (some (x,true))),(la,aa ep vs),(it,j8 (x-1) (x+1-1))]++[]) (Z+1) (V+15):=⟨by kernel_rfl⟩
theorem G5 P fr la it ia epi ka epk ep k t vsI pk vs x dd d2 n (n1:Int) (m:Int) x0 b0 Z V:Fa (bh P none 900 92 Tz (oO P fr it) [(fr,nH k t ia false dd la (some (x0,b0))),(la,aa ep vs),(it,j8 x (x+1))] Z V [(ia,aa epi vsI),(ka,aa epk (tvs pk))] (jQ 4 it x (x+1) (aX 0 [] ia x (.ref ka) (cB 0 [] ka n (jL n 1 false (aX 0 [] ia x (.ref ka) (pg 8 (fun g=>[(Z+0,aa 0 [.str (nm [46,46]) (cZ (au g 0) 0)])]) ka (Z+0) true (tM dd 1 d2 (.nil))))))))) 7 (.again (oO P fr it)) (fun R=>[(fr,nH (ak R 0) (aq R 0) ia false d2 la (some (x,false))),(la,aa ep vs),(it,j8 (x-1) (x+1-1))]++[]) (Z+1) (V+10):=⟨by kernel_rfl⟩
theorem H4 P fr la it ia epi ka epk ep k t vsI pk vs x dd (d2:Int) n (n1:Int) (m:Int) x0 b0 Z V:Fa (bh P none 900 111 Vs (oO P fr it) [(fr,nH k t ia false dd la (some (x0,b0))),(la,aa ep vs),(it,j8 x (x+1))] Z V [(ia,aa epi vsI),(ka,aa epk (tvs pk))] (jQ 4 it x (x+1) (aX 0 [] ia x (.ref ka) (cB 0 [] ka n (jL n 1 false (aX 0 [] ia x (.ref ka) (pg 8 (fun g=>[(Z+0,aa 0 [.str (nm [46,46]) (cZ (au g 0) 0)])]) ka (Z+0) false (aX 0 [] ia x (.ref ka) (uO 112 (Z+3) (Z+1) (Z+2) ka (fun g=>[(Z+1,aa 0 [.str (nm []) (cZ (au g 0) 0)]),(Z+2,aa 0 [.str (nm [46]) (cZ (au g 1) 0)]),(Z+3,iY [.ref (Z+1),.ref (Z+2)])]) true (.nil)))))))))) 7 (.again (oO P fr it)) (fun R=>[(fr,nH (ak R 0) (aq R 0) ia false dd la (some (x,false))),(la,aa ep vs),(it,j8 (x-1) (x+1-1))]++[]) (Z+4) (V+9):=⟨by kernel_rfl⟩
theorem Hr P fr la it ia epi ka epk ep k t vsI pk vs x dd d2 n (n1:Int) (m:Int) x0 b0 Z V:Fa (bh P none 900 133 (hc (hc (hc (hc 0x101010001010001 208 Sh) 24 0x10101) 176 v5) 8 2) (oO P fr it) [(fr,nH k t ia false dd la (some (x0,b0))),(la,aa ep vs),(it,j8 x (x+1))] Z V [(ia,aa epi vsI),(ka,aa epk (tvs pk))] (jQ 4 it x (x+1) (aX 0 [] ia x (.ref ka) (cB 0 [] ka n (jL n 1 false (aX 0 [] ia x (.ref ka) (pg 8 (fun g=>[(Z+0,aa 0 [.str (nm [46,46]) (cZ (au g 0) 0)])]) ka (Z+0) false (aX 0 [] ia x (.ref ka) (uO 112 (Z+3) (Z+1) (Z+2) ka (fun g=>[(Z+1,aa 0 [.str (nm []) (cZ (au g 0) 0)]),(Z+2,aa 0 [.str (nm [46]) (cZ (au g 1) 0)]),(Z+3,iY [.ref (Z+1),.ref (Z+2)])]) false (jL dd 0 true (gY dd 1 d2 (.nil)))))))))))) 7 (.again (oO P fr it)) (fun R=>[(fr,nH (ak R 0) (aq R 0) ia false d2 la (some (x,false))),(la,aa ep vs),(it,j8 (x-1) (x+1-1))]++[]) (Z+4) (V+13):=⟨by kernel_rfl⟩
theorem GQ P fr la it ia epi ka epk ep k t vsI pk vs x dd (d2:Int) n (n1:Int) (m:Int) x0 b0 Z V:Fa (bh P none 900 137 Tj (oO P fr it) [(fr,nH k t ia false dd la (some (x0,b0))),(la,aa ep vs),(it,j8 x (x+1))] Z V [(ia,aa epi vsI),(ka,aa epk (tvs pk))] (jQ 4 it x (x+1) (aX 0 [] ia x (.ref ka) (cB 0 [] ka n (jL n 1 false (aX 0 [] ia x (.ref ka) (pg 8 (fun g=>[(Z+0,aa 0 [.str (nm [46,46]) (cZ (au g 0) 0)])]) ka (Z+0) false (aX 0 [] ia x (.ref ka) (uO 112 (Z+3) (Z+1) (Z+2) ka (fun g=>[(Z+1,aa 0 [.str (nm []) (cZ (au g 0) 0)]),(Z+2,aa 0 [.str (nm [46]) (cZ (au g 1) 0)]),(Z+3,iY [.ref (Z+1),.ref (Z+2)])]) false (jL dd 0 false (vI 2 la ep vs (.int x V) (.nil)))))))))))) 7 (.again (oO P fr it)) (fun R=>[(fr,nH (ak R 0) (aq R 0) ia false dd la (some (x,false))),(la,aa (gj ep vs (uG (.int x V))) (.int x V::vs)),(it,j8 (x-1) (x+1-1))]++[]) (Z+4) (V+11):=⟨by kernel_rfl⟩
theorem Hs P fr la it ia epi ka epk ep k t vsI pk vs x dd d2 n n1 m x0 b0 Z V:Fa (bh P none 900 119 (hc (hc (hc (hc 0x10101000101c90005c901c800c8c8c8 128 M6) 8 0) 176 v5) 8 2) (oO P fr it) [(fr,nH k t ia true dd la (some (x0,b0))),(la,aa ep vs),(it,j8 x (x+1))] Z V [(ia,aa epi vsI),(ka,aa epk (tvs pk))] (jQ 4 it x (x+1) (aX 0 [] ia x (.ref ka) (cB 0 [] ka n (jL n 1 false (cB 0 [] ia m (gY m 1 n1 (uI 8 Z 0 n1 x false (aX 0 [] ia x (.ref ka) (pg 16 (fun g=>[(Z+1,aa 0 [.str (nm [46,46]) (cZ (au g 0) 0)])]) ka (Z+1) true (tM dd 1 d2 (.nil)))))))))))) 7 (.again (oO P fr it)) (fun R=>[(fr,nH (ak R 0) (aq R 0) ia true d2 la (some (x,false))),(la,aa ep vs),(it,j8 (x-1) (x+1-1))]++[]) (Z+2) (V+15):=⟨by kernel_rfl⟩
theorem HX P fr la it ia epi ka epk ep k t vsI pk vs x dd (d2:Int) n n1 m x0 b0 Z V:Fa (bh P none 900 138 (hc (hc Qu 176 v5) 8 2) (oO P fr it) [(fr,nH k t ia true dd la (some (x0,b0))),(la,aa ep vs),(it,j8 x (x+1))] Z V [(ia,aa epi vsI),(ka,aa epk (tvs pk))] (jQ 4 it x (x+1) (aX 0 [] ia x (.ref ka) (cB 0 [] ka n (jL n 1 false (cB 0 [] ia m (gY m 1 n1 (uI 8 Z 0 n1 x false (aX 0 [] ia x (.ref ka) (pg 16 (fun g=>[(Z+1,aa 0 [.str (nm [46,46]) (cZ (au g 0) 0)])]) ka (Z+1) false (aX 0 [] ia x (.ref ka) (uO 224 (Z+4) (Z+2) (Z+3) ka (fun g=>[(Z+2,aa 0 [.str (nm []) (cZ (au g 0) 0)]),(Z+3,aa 0 [.str (nm [46]) (cZ (au g 1) 0)]),(Z+4,iY [.ref (Z+2),.ref (Z+3)])]) true (.nil))))))))))))) 7 (.again (oO P fr it)) (fun R=>[(fr,nH (ak R 0) (aq R 0) ia true dd la (some (x,false))),(la,aa ep vs),(it,j8 (x-1) (x+1-1))]++[]) (Z+5) (V+14):=⟨by kernel_rfl⟩
theorem Gy P fr la it ia epi ka epk ep k t vsI pk vs x dd d2 n n1 m x0 b0 Z V:Fa (bh P none 900 160 (hc (hc (hc 0x101010001010001 336 Qu) 176 v5) 8 2) (oO P fr it) [(fr,nH k t ia true dd la (some (x0,b0))),(la,aa ep vs),(it,j8 x (x+1))] Z V [(ia,aa epi vsI),(ka,aa epk (tvs pk))] (jQ 4 it x (x+1) (aX 0 [] ia x (.ref ka) (cB 0 [] ka n (jL n 1 false (cB 0 [] ia m (gY m 1 n1 (uI 8 Z 0 n1 x false (aX 0 [] ia x (.ref ka) (pg 16 (fun g=>[(Z+1,aa 0 [.str (nm [46,46]) (cZ (au g 0) 0)])]) ka (Z+1) false (aX 0 [] ia x (.ref ka) (uO 224 (Z+4) (Z+2) (Z+3) ka (fun g=>[(Z+2,aa 0 [.str (nm []) (cZ (au g 0) 0)]),(Z+3,aa 0 [.str (nm [46]) (cZ (au g 1) 0)]),(Z+4,iY [.ref (Z+2),.ref (Z+3)])]) false (jL dd 0 true (gY dd 1 d2 (.nil))))))))))))))) 7 (.again (oO P fr it)) (fun R=>[(fr,nH (ak R 0) (aq R 0) ia true d2 la (some (x,false))),(la,aa ep vs),(it,j8 (x-1) (x+1-1))]++[]) (Z+5) (V+18):=⟨by kernel_rfl⟩
theorem Hb P fr la it ia epi ka epk ep k t vsI pk vs x dd (d2:Int) n n1 m x0 b0 Z V:Fa (bh P none 900 164 (hc (hc (hc Ja 336 Qu) 176 v5) 8 2) (oO P fr it) [(fr,nH k t ia true dd la (some (x0,b0))),(la,aa ep vs),(it,j8 x (x+1))] Z V [(ia,aa epi vsI),(ka,aa epk (tvs pk))] (jQ 4 it x (x+1) (aX 0 [] ia x (.ref ka) (cB 0 [] ka n (jL n 1 false (cB 0 [] ia m (gY m 1 n1 (uI 8 Z 0 n1 x false (aX 0 [] ia x (.ref ka) (pg 16 (fun g=>[(Z+1,aa 0 [.str (nm [46,46]) (cZ (au g 0) 0)])]) ka (Z+1) false (aX 0 [] ia x (.ref ka) (uO 224 (Z+4) (Z+2) (Z+3) ka (fun g=>[(Z+2,aa 0 [.str (nm []) (cZ (au g 0) 0)]),(Z+3,aa 0 [.str (nm [46]) (cZ (au g 1) 0)]),(Z+4,iY [.ref (Z+2),.ref (Z+3)])]) false (jL dd 0 false (vI 2 la ep vs (.int x V) (.nil))))))))))))))) 7 (.again (oO P fr it)) (fun R=>[(fr,nH (ak R 0) (aq R 0) ia true dd la (some (x,false))),(la,aa (gj ep vs (uG (.int x V))) (.int x V::vs)),(it,j8 (x-1) (x+1-1))]++[]) (Z+5) (V+16):=⟨by kernel_rfl⟩
theorem o5 P fr la it ia ep k t vs x dd mk b0 x0 Z V:Fa (bh P none 900 9 4402391810818 (oO P fr it) [(fr,nH k t ia mk dd la (some (x0,b0))),(la,aa ep vs),(it,j8 x 0)] Z V [] (O1 4 it x (.nil))) 7 (.done .next) (fun _=>[(fr,nH k t ia mk dd la (some (x0,b0))),(la,aa ep vs),(it,j8 x 0)]++[]) (Z+2) (V+0):=⟨by kernel_rfl⟩
section
open Builtin Builtin.Str Builtin.Int
noncomputable def isName (items:List (List (List Nat)))(mk:Bool)(k:Nat):Bool:=decide (1<(items.getD k []).length)||(mk&&(k==0||k+1==items.length))
noncomputable def cO (items:List (List (List Nat)))(mk:Bool)(k:Nat)(s:Nat×List Nat):Nat×List Nat:=
 if isName items mk k=false∧items.getD k []=[[46,46]] then(s.1+1,s.2)
 else if isName items mk k=false∧(items.getD k []=[[]]∨items.getD k []=[[46]]) then s
 else if 0<s.1 then(s.1-1,s.2) else(s.1,k::s.2)
noncomputable def mz (items:List (List (List Nat)))(mk:Bool):Nat→Nat×List Nat→Nat×List Nat
 |0,s=>s
 |j+1,s=>mz items mk j (cO items mk j s)
noncomputable def cM (items:List (List (List Nat)))(mk:Bool):Nat×List Nat:=mz items mk items.length (0,[])
noncomputable def dq (l:List (Nat×Nat)):List Value:=l.map fun p=>.int ((p.1:Nat):Int) p.2
theorem fB (l:List (Nat×Nat)):(dq l).length=l.length:=List.length_map ..
theorem ofT {a b:List (List Nat)}(h:a≠b):jH a b=false:=by
 cases e:jH a b with
 |false=>rfl
 |true=>exact absurd (jR.mp e) h
section
variable {w:World} {J:Array GenState} {dr:Drawn} {os:Osw}
theorem iu {Fn:bw}(hkt:Sub (KF w.params) Fn)(fr la it ia epi:Nat)(vsI:List Value)(hI:Fn ia (aa epi vsI))(items:List (List (List Nat)))(hit:All2 (j0 Fn) vsI items)(hne:items≠[])(hlen:items.length≤40000)(hpos:∀x∈items,x≠[]∧x.length≤100000)(mk:Bool)(Z V:Nat):
  ∃(dd ep:Nat) (lv:List (Nat×Nat)) (c:Int×Bool) (Z' V':Nat),Z≤Z'∧cM items mk=(dd,lv.map (·.1))∧lv.length≤items.length∧∀k t,∃k' t',∀Fz,Sub Fn Fz→
   jO aH w J dr os 900 (oO w.params fr it) Fz [(fr,nH k t ia mk 0 la none),(la,aa 0 []),(it,j8 ((items.length:Int)-1) (items.length:Int))] Z V (.ok .next) Fz [(fr,nH k' t' ia mk (dd:Int) la (some c)),(la,aa ep (dq lv)),(it,j8 (-1) 0)] Z' V':=by
 have hq:(oO w.params fr it).quiet=true:=by kernel_rfl
 have hvl:=hit.len
 obtain⟨⟨cur,dd,ep,lv⟩,X,Z',V',h1,h2,h3,h4⟩:=xP (w:=w) (J:=J) (dr:=dr) (os:=os) (lim:=900) (c:=oO w.params fr it) (r:=.ok .next) (S:=Option (Int×Bool)×Nat×Nat×List (Nat×Nat)) (n:=items.length) (Fn:=Fn)
  (ld:=fun i s k t=>[(fr,nH k t ia mk (s.2.1:Int) la s.1),(la,aa s.2.2.1 (dq s.2.2.2)),(it,j8 ((items.length:Int)-1-i) ((items.length:Int)-i))]) (ld':=fun s k t=>[(fr,nH k t ia mk (s.2.1:Int) la s.1),(la,aa s.2.2.1 (dq s.2.2.2)),(it,j8 (-1) 0)])
  (I:=fun i s Fr=>i≤items.length∧mz items mk (items.length-i) (s.2.1,s.2.2.2.map (·.1))=cM items mk∧s.2.2.2.length≤i∧(s.1=none→i=0∧s.2.1=0∧s.2.2.2=[]))
  (fun i s Fr Z V hi hF hI'=>by
   refine Classical.byContradiction fun hNN=>?_
   obtain⟨cur,dd,ep,lv⟩:=s
   refine cg hI' fun _ hgo hlv hcur=>?_
   simp only at hgo hlv hcur
   obtain⟨k,hk⟩:∃k,items.length-i=k+1:=⟨items.length-i-1,by lia⟩
   have hkl:k<items.length:=by lia
   have ex:(items.length:Int)-1-i=(k:Int):=by lia
   have Vg:(items.length:Int)-i=(k:Int)+1:=by lia
   have ex2:(items.length:Int)-1-((i+1:Nat):Int)=(k:Int)-1:=by lia
   have ex3:(items.length:Int)-((i+1:Nat):Int)=(k:Int)+1-1:=by lia
   have hvk:vsI[k]?=some (vsI[k]'(by lia)):=List.getElem?_eq_getElem _
   obtain⟨item,hitem,ka,epk,pk,hv,hfk,hpk⟩:=hit.get hvk
   rw[hv] at hvk
   have hgd:items.getD k []=aF pk:=by rw[List.getD_eq_getElem?_getD,hitem,hpk];rfl
   have hpp:=hpos item (List.mem_of_getElem? hitem)
   rw[←hpk] at hpp
   have hpl:(tvs pk).length=(aF pk).length:=by rw[aG,cJ]
   rw[hk] at hgo
   have ht:Sub (KF w.params) Fr:=hkt.trans hF
   have hro:∀p∈([(ia,aa epi vsI),(ka,aa epk (tvs pk))]:Led),Fr p.1 p.2:=fun p hp=>by
    simp only[List.mem_cons,List.not_mem_nil,or_false] at hp
    rcases hp with rfl|rfl
    ·exact hF _ _ hI
    ·exact hF _ _ hfk
   have gi:∀{Fz:bw} {kk:Ant},Sub Fr Fz→aA aH w J dr os Fz kk→aA aH w J dr os Fz (aX 0 [] ia (k:Int) (.ref ka) kk):=fun hz h=>ie (.inl (hz _ _ (hF _ _ hI))) (Int.natCast_nonneg k) (by have e:(2:Int) ^ 63=9223372036854775808:=rfl;rw[e];lia) hvk h
   have hd:∀{Fz:bw} {kk:Ant} {b:Bool},Sub Fr Fz→decide (1<(aF pk).length)=b→aA aH w J dr os Fz kk→aA aH w J dr os Fz (jQ 4 it (k:Int) ((k:Int)+1) (aX 0 [] ia (k:Int) (.ref ka) (cB 0 [] ka ((aF pk).length:Int) (jL ((aF pk).length:Int) 1 b kk)))):=fun hz hb h=>
    Qw (by lia) (gi hz (gf (.inl (hz _ _ (hF _ _ hfk))) (by rw[hpl]) (by rw[hpl];exact hpp.2) (qj (by rw[←hb];exact decide_eq_decide.mpr (by lia)) h)))
   have inn:∀{Fz:bw} {kk:Ant} {b:Bool},Sub Fr Fz→(k==0||k+1==items.length)=b→aA aH w J dr os Fz kk→aA aH w J dr os Fz (cB 0 [] ia (items.length:Int) (gY (items.length:Int) 1 ((items.length:Int)-1) (uI 8 Z 0 ((items.length:Int)-1) (k:Int) b kk))):=fun hz hb h=>
    gf (.inl (hz _ _ (hF _ _ hI))) (by rw[hvl]) (by lia) (pR rfl (PT (by
     rw[←hb]
     have e1:((0:Int)==(k:Int))=(k==0):=by rw[Bool.eq_iff_iff,beq_iff_eq,beq_iff_eq];lia
     have e2:((items.length:Int)-1==(k:Int))=(k+1==items.length):=by rw[Bool.eq_iff_iff,beq_iff_eq,beq_iff_eq];lia
     rw[e1,e2]) h))
   have hivl:(dq lv).length≤100000:=by rw[fB];lia
   have XN:aW (aj (fun _ _=>False) (bG [])) Z:=(aW.none _).or (aW.frL (fun _ h=>(nomatch h)))
   have go:∀(dd' ep':Nat) (lv':List (Nat×Nat)) (nb:Bool) (szd tokd:Nat),cO items mk k (dd,lv.map (·.1))=(dd',lv'.map (·.1))→lv'.length≤i+1→
     (∀kk t,∃k' t',∀Fz,Sub Fr Fz→jm w J dr os 900 (oO w.params fr it) Fz [(fr,nH kk t ia mk (dd:Int) la cur),(la,aa ep (dq lv)),(it,j8 (k:Int) ((k:Int)+1))] Z V (oO w.params fr it) (aj Fz (aj (fun _ _=>False) (bG []))) [(fr,nH k' t' ia mk (dd':Int) la (some ((k:Int),nb))),(la,aa ep' (dq lv')),(it,j8 ((k:Int)-1) ((k:Int)+1-1))] (Z+szd) (V+tokd))→
     False:=fun dd' ep' lv' nb szd tokd hst hl hj=>by
    refine hNN ⟨(some ((k:Int),nb),dd',ep',lv'),_,Z+szd,V+tokd,Nat.le_add_right _ _,XN,⟨by lia,?_,hl,fun q=>(nomatch q)⟩,?_⟩
    ·have e:items.length-(i+1)=k:=by lia
     rw[e]
     show mz items mk k (dd',lv'.map (·.1))=_
     rw[←hst]
     exact hgo
    ·rw[ex,Vg,ex2,ex3]
     exact hj
   by_cases hA:1<(aF pk).length
   ·have hn:isName items mk k=true:=by unfold isName;rw[hgd,decide_eq_true hA];rfl
    have s1:¬(isName items mk k=false∧items.getD k []=[[46,46]]):=by rw[hn];simp
    have s2:¬(isName items mk k=false∧(items.getD k []=[[]]∨items.getD k []=[[46]])):=by rw[hn];simp
    by_cases hdd:0<dd
    ·refine go (dd-1) ep lv true 0 10 (by unfold cO;rw[if_neg s1,if_neg s2,if_pos hdd]) (Nat.le_succ_of_le hlv) fun kk t=>?_
     clear go hNN
     cases cur with
     |none=>
      exact absurd (hcur rfl).2.1 (by lia)
     |some p=>
      exact cV (zN w.params fr la it ia epi ka epk ep kk t vsI pk (dq lv) (k:Int) (dd:Int) ((dd-1:Nat):Int) ((aF pk).length:Int) ((items.length:Int)-1) (items.length:Int) mk p.1 p.2 Z V) hq ht hro fun Fz hz=>hd hz (decide_eq_true hA) (qj (decide_eq_true (by lia)) (pR (by lia) trivial))
    ·refine go dd (gj ep (dq lv) (uG (.int (k:Int) V))) ((k,V)::lv) true 0 8 (by unfold cO;rw[if_neg s1,if_neg s2,if_neg hdd];rfl) (by show lv.length+1≤_;lia) fun kk t=>?_
     clear go hNN
     cases cur with
     |none=>
      exact cV (Cw w.params fr la it ia epi ka epk ep kk t vsI pk (dq lv) (k:Int) (dd:Int) 0 ((aF pk).length:Int) ((items.length:Int)-1) (items.length:Int) mk Z V) hq ht hro fun Fz hz=>hd hz (decide_eq_true hA) (qj (decide_eq_false (by lia)) (t6 hivl trivial))
     |some p=>
      exact cV (Bv w.params fr la it ia epi ka epk ep kk t vsI pk (dq lv) (k:Int) (dd:Int) 0 ((aF pk).length:Int) ((items.length:Int)-1) (items.length:Int) mk p.1 p.2 Z V) hq ht hro fun Fz hz=>hd hz (decide_eq_true hA) (qj (decide_eq_false (by lia)) (t6 hivl trivial))
   ·by_cases hC:mk=true∧(k==0||k+1==items.length)=true
    ·obtain⟨hm,hC⟩:=hC
     subst hm
     have hn:isName items true k=true:=by unfold isName;rw[hC];simp
     have s1:¬(isName items true k=false∧items.getD k []=[[46,46]]):=by rw[hn];simp
     have s2:¬(isName items true k=false∧(items.getD k []=[[]]∨items.getD k []=[[46]])):=by rw[hn];simp
     by_cases hdd:0<dd
     ·refine go (dd-1) ep lv true 1 15 (by unfold cO;rw[if_neg s1,if_neg s2,if_pos hdd]) (Nat.le_succ_of_le hlv) fun kk t=>?_
      clear go hNN
      cases cur with
      |none=>
       exact absurd (hcur rfl).2.1 (by lia)
      |some p=>
       exact cV (Ak w.params fr la it ia epi ka epk ep kk t vsI pk (dq lv) (k:Int) (dd:Int) ((dd-1:Nat):Int) ((aF pk).length:Int) ((items.length:Int)-1) (items.length:Int) p.1 p.2 Z V) hq ht hro fun Fz hz=>hd hz (decide_eq_false hA) (inn hz hC (qj (decide_eq_true (by lia)) (pR (by lia) trivial)))
     ·refine go dd (gj ep (dq lv) (uG (.int (k:Int) V))) ((k,V)::lv) true 1 13 (by unfold cO;rw[if_neg s1,if_neg s2,if_neg hdd];rfl) (by show lv.length+1≤_;lia) fun kk t=>?_
      clear go hNN
      cases cur with
      |none=>
       exact cV (Ce w.params fr la it ia epi ka epk ep kk t vsI pk (dq lv) (k:Int) (dd:Int) 0 ((aF pk).length:Int) ((items.length:Int)-1) (items.length:Int) Z V) hq ht hro fun Fz hz=>hd hz (decide_eq_false hA) (inn hz hC (qj (decide_eq_false (by lia)) (t6 hivl trivial)))
      |some p=>
       exact cV (Cz w.params fr la it ia epi ka epk ep kk t vsI pk (dq lv) (k:Int) (dd:Int) 0 ((aF pk).length:Int) ((items.length:Int)-1) (items.length:Int) p.1 p.2 Z V) hq ht hro fun Fz hz=>hd hz (decide_eq_false hA) (inn hz hC (qj (decide_eq_false (by lia)) (t6 hivl trivial)))
    ·have hn:isName items mk k=false:=by
      unfold isName
      rw[hgd,decide_eq_false hA]
      cases mk with
      |false=>rfl
      |true=>
       cases hc:(k==0||k+1==items.length) with
       |false=>rfl
       |true=>exact absurd ⟨rfl,hc⟩ hC
     cases mk with
     |true=>
      have hc:(k==0||k+1==items.length)=false:=by
       cases hc:(k==0||k+1==items.length) with
       |false=>rfl
       |true=>exact absurd ⟨rfl,hc⟩ hC
      have hnf:∀{P:Prop},cur=none→P:=fun q=>by
       have:=(hcur q).1
       have e:(k+1==items.length)=true:=by rw[beq_iff_eq];lia
       rw[e] at hc
       simp at hc
      by_cases e1:aF pk=[[46,46]]
      ·refine go (dd+1) ep lv false 2 15 (by unfold cO;rw[if_pos ⟨hn,hgd.trans e1⟩]) (Nat.le_succ_of_le hlv) fun kk t=>?_
       clear go hNN
       cases cur with
       |none=>
        exact hnf rfl
       |some p=>
        exact cV (Hs w.params fr la it ia epi ka epk ep kk t vsI pk (dq lv) (k:Int) (dd:Int) ((dd+1:Nat):Int) ((aF pk).length:Int) ((items.length:Int)-1) (items.length:Int) p.1 p.2 Z V) hq ht hro fun Fz hz=>hd hz (decide_eq_false hA) (inn hz hc (gi hz (lF (ts:=aF pk) (us:=[[46,46]]) (fun _=>⟨epk,pk,rfl,.inl (hz _ _ (hF _ _ hfk))⟩) (fun g=>⟨0,[([46,46],cZ (au g 0) 0)],rfl,.inr (.head _)⟩) (by rw[e1];rfl) (wk (by lia) trivial))))
      have s1:¬(isName items true k=false∧items.getD k []=[[46,46]]):=fun q=>e1 (hgd.symm.trans q.2)
      by_cases e2:aF pk=[[]]∨aF pk=[[46]]
      ·refine go dd ep lv false 5 14 (by unfold cO;rw[if_neg s1,if_pos ⟨hn,by rw[hgd];exact e2⟩]) (Nat.le_succ_of_le hlv) fun kk t=>?_
       clear go hNN
       cases cur with
       |none=>
        exact hnf rfl
       |some p=>
        exact cV (HX w.params fr la it ia epi ka epk ep kk t vsI pk (dq lv) (k:Int) (dd:Int) 0 ((aF pk).length:Int) ((items.length:Int)-1) (items.length:Int) p.1 p.2 Z V) hq ht hro fun Fz hz=>hd hz (decide_eq_false hA) (inn hz hc (gi hz (lF (ts:=aF pk) (us:=[[46,46]]) (fun _=>⟨epk,pk,rfl,.inl (hz _ _ (hF _ _ hfk))⟩) (fun g=>⟨0,[([46,46],cZ (au g 0) 0)],rfl,.inr (.head _)⟩) (ofT e1) (gi hz (qO (ta:=[[]]) (tb:=[[46]]) (tx:=aF pk) (fun _=>.tail _ (.tail _ (.head _))) (fun g=>⟨0,[([],cZ (au g 0) 0)],rfl,.head _⟩) (fun g=>⟨0,[([46],cZ (au g 1) 0)],rfl,.tail _ (.head _)⟩) ⟨epk,pk,rfl,hz _ _ (hF _ _ hfk)⟩ (by rcases e2 with e|e<;>(rw[e];rfl)) trivial)))))
      have s2:¬(isName items true k=false∧(items.getD k []=[[]]∨items.getD k []=[[46]])):=fun q=>e2 (by rw[←hgd];exact q.2)
      have i2:(jH [[]] (aF pk)||jH [[46]] (aF pk))=false:=by rw[ofT fun e=>e2 (.inl e.symm),ofT fun e=>e2 (.inr e.symm)];rfl
      by_cases hdd:0<dd
      ·refine go (dd-1) ep lv false 5 18 (by unfold cO;rw[if_neg s1,if_neg s2,if_pos hdd]) (Nat.le_succ_of_le hlv) fun kk t=>?_
       clear go hNN
       cases cur with
       |none=>
        exact hnf rfl
       |some p=>
        exact cV (Gy w.params fr la it ia epi ka epk ep kk t vsI pk (dq lv) (k:Int) (dd:Int) ((dd-1:Nat):Int) ((aF pk).length:Int) ((items.length:Int)-1) (items.length:Int) p.1 p.2 Z V) hq ht hro fun Fz hz=>hd hz (decide_eq_false hA) (inn hz hc (gi hz (lF (ts:=aF pk) (us:=[[46,46]]) (fun _=>⟨epk,pk,rfl,.inl (hz _ _ (hF _ _ hfk))⟩) (fun g=>⟨0,[([46,46],cZ (au g 0) 0)],rfl,.inr (.head _)⟩) (ofT e1) (gi hz (qO (ta:=[[]]) (tb:=[[46]]) (tx:=aF pk) (fun _=>.tail _ (.tail _ (.head _))) (fun g=>⟨0,[([],cZ (au g 0) 0)],rfl,.head _⟩) (fun g=>⟨0,[([46],cZ (au g 1) 0)],rfl,.tail _ (.head _)⟩) ⟨epk,pk,rfl,hz _ _ (hF _ _ hfk)⟩ i2 (qj (decide_eq_true (by lia)) (pR (by lia) trivial)))))))
      ·refine go dd (gj ep (dq lv) (uG (.int (k:Int) V))) ((k,V)::lv) false 5 16 (by unfold cO;rw[if_neg s1,if_neg s2,if_neg hdd];rfl) (by show lv.length+1≤_;lia) fun kk t=>?_
       clear go hNN
       cases cur with
       |none=>
        exact hnf rfl
       |some p=>
        exact cV (Hb w.params fr la it ia epi ka epk ep kk t vsI pk (dq lv) (k:Int) (dd:Int) 0 ((aF pk).length:Int) ((items.length:Int)-1) (items.length:Int) p.1 p.2 Z V) hq ht hro fun Fz hz=>hd hz (decide_eq_false hA) (inn hz hc (gi hz (lF (ts:=aF pk) (us:=[[46,46]]) (fun _=>⟨epk,pk,rfl,.inl (hz _ _ (hF _ _ hfk))⟩) (fun g=>⟨0,[([46,46],cZ (au g 0) 0)],rfl,.inr (.head _)⟩) (ofT e1) (gi hz (qO (ta:=[[]]) (tb:=[[46]]) (tx:=aF pk) (fun _=>.tail _ (.tail _ (.head _))) (fun g=>⟨0,[([],cZ (au g 0) 0)],rfl,.head _⟩) (fun g=>⟨0,[([46],cZ (au g 1) 0)],rfl,.tail _ (.head _)⟩) ⟨epk,pk,rfl,hz _ _ (hF _ _ hfk)⟩ i2 (qj (decide_eq_false (by lia)) (t6 hivl trivial)))))))
     |false=>
      by_cases e1:aF pk=[[46,46]]
      ·refine go (dd+1) ep lv false 1 10 (by unfold cO;rw[if_pos ⟨hn,hgd.trans e1⟩]) (Nat.le_succ_of_le hlv) fun kk t=>?_
       clear go hNN
       cases cur with
       |none=>
        exact cV (G4 w.params fr la it ia epi ka epk ep kk t vsI pk (dq lv) (k:Int) (dd:Int) ((dd+1:Nat):Int) ((aF pk).length:Int) ((items.length:Int)-1) (items.length:Int) Z V) hq ht hro fun Fz hz=>hd hz (decide_eq_false hA) (gi hz (lF (ts:=aF pk) (us:=[[46,46]]) (fun _=>⟨epk,pk,rfl,.inl (hz _ _ (hF _ _ hfk))⟩) (fun g=>⟨0,[([46,46],cZ (au g 0) 0)],rfl,.inr (.head _)⟩) (by rw[e1];rfl) (wk (by lia) trivial)))
       |some p=>
        exact cV (G5 w.params fr la it ia epi ka epk ep kk t vsI pk (dq lv) (k:Int) (dd:Int) ((dd+1:Nat):Int) ((aF pk).length:Int) ((items.length:Int)-1) (items.length:Int) p.1 p.2 Z V) hq ht hro fun Fz hz=>hd hz (decide_eq_false hA) (gi hz (lF (ts:=aF pk) (us:=[[46,46]]) (fun _=>⟨epk,pk,rfl,.inl (hz _ _ (hF _ _ hfk))⟩) (fun g=>⟨0,[([46,46],cZ (au g 0) 0)],rfl,.inr (.head _)⟩) (by rw[e1];rfl) (wk (by lia) trivial)))
      have s1:¬(isName items false k=false∧items.getD k []=[[46,46]]):=fun q=>e1 (hgd.symm.trans q.2)
      by_cases e2:aF pk=[[]]∨aF pk=[[46]]
      ·refine go dd ep lv false 4 9 (by unfold cO;rw[if_neg s1,if_pos ⟨hn,by rw[hgd];exact e2⟩]) (Nat.le_succ_of_le hlv) fun kk t=>?_
       clear go hNN
       cases cur with
       |none=>
        exact cV (HH w.params fr la it ia epi ka epk ep kk t vsI pk (dq lv) (k:Int) (dd:Int) 0 ((aF pk).length:Int) ((items.length:Int)-1) (items.length:Int) Z V) hq ht hro fun Fz hz=>hd hz (decide_eq_false hA) (gi hz (lF (ts:=aF pk) (us:=[[46,46]]) (fun _=>⟨epk,pk,rfl,.inl (hz _ _ (hF _ _ hfk))⟩) (fun g=>⟨0,[([46,46],cZ (au g 0) 0)],rfl,.inr (.head _)⟩) (ofT e1) (gi hz (qO (ta:=[[]]) (tb:=[[46]]) (tx:=aF pk) (fun _=>.tail _ (.tail _ (.head _))) (fun g=>⟨0,[([],cZ (au g 0) 0)],rfl,.head _⟩) (fun g=>⟨0,[([46],cZ (au g 1) 0)],rfl,.tail _ (.head _)⟩) ⟨epk,pk,rfl,hz _ _ (hF _ _ hfk)⟩ (by rcases e2 with e|e<;>(rw[e];rfl)) trivial))))
       |some p=>
        exact cV (H4 w.params fr la it ia epi ka epk ep kk t vsI pk (dq lv) (k:Int) (dd:Int) 0 ((aF pk).length:Int) ((items.length:Int)-1) (items.length:Int) p.1 p.2 Z V) hq ht hro fun Fz hz=>hd hz (decide_eq_false hA) (gi hz (lF (ts:=aF pk) (us:=[[46,46]]) (fun _=>⟨epk,pk,rfl,.inl (hz _ _ (hF _ _ hfk))⟩) (fun g=>⟨0,[([46,46],cZ (au g 0) 0)],rfl,.inr (.head _)⟩) (ofT e1) (gi hz (qO (ta:=[[]]) (tb:=[[46]]) (tx:=aF pk) (fun _=>.tail _ (.tail _ (.head _))) (fun g=>⟨0,[([],cZ (au g 0) 0)],rfl,.head _⟩) (fun g=>⟨0,[([46],cZ (au g 1) 0)],rfl,.tail _ (.head _)⟩) ⟨epk,pk,rfl,hz _ _ (hF _ _ hfk)⟩ (by rcases e2 with e|e<;>(rw[e];rfl)) trivial))))
      have s2:¬(isName items false k=false∧(items.getD k []=[[]]∨items.getD k []=[[46]])):=fun q=>e2 (by rw[←hgd];exact q.2)
      have i2:(jH [[]] (aF pk)||jH [[46]] (aF pk))=false:=by rw[ofT fun e=>e2 (.inl e.symm),ofT fun e=>e2 (.inr e.symm)];rfl
      by_cases hdd:0<dd
      ·refine go (dd-1) ep lv false 4 13 (by unfold cO;rw[if_neg s1,if_neg s2,if_pos hdd]) (Nat.le_succ_of_le hlv) fun kk t=>?_
       clear go hNN
       cases cur with
       |none=>
        exact absurd (hcur rfl).2.1 (by lia)
       |some p=>
        exact cV (Hr w.params fr la it ia epi ka epk ep kk t vsI pk (dq lv) (k:Int) (dd:Int) ((dd-1:Nat):Int) ((aF pk).length:Int) ((items.length:Int)-1) (items.length:Int) p.1 p.2 Z V) hq ht hro fun Fz hz=>hd hz (decide_eq_false hA) (gi hz (lF (ts:=aF pk) (us:=[[46,46]]) (fun _=>⟨epk,pk,rfl,.inl (hz _ _ (hF _ _ hfk))⟩) (fun g=>⟨0,[([46,46],cZ (au g 0) 0)],rfl,.inr (.head _)⟩) (ofT e1) (gi hz (qO (ta:=[[]]) (tb:=[[46]]) (tx:=aF pk) (fun _=>.tail _ (.tail _ (.head _))) (fun g=>⟨0,[([],cZ (au g 0) 0)],rfl,.head _⟩) (fun g=>⟨0,[([46],cZ (au g 1) 0)],rfl,.tail _ (.head _)⟩) ⟨epk,pk,rfl,hz _ _ (hF _ _ hfk)⟩ i2 (qj (decide_eq_true (by lia)) (pR (by lia) trivial))))))
      ·refine go dd (gj ep (dq lv) (uG (.int (k:Int) V))) ((k,V)::lv) false 4 11 (by unfold cO;rw[if_neg s1,if_neg s2,if_neg hdd];rfl) (by show lv.length+1≤_;lia) fun kk t=>?_
       clear go hNN
       cases cur with
       |none=>
        exact cV (Hp w.params fr la it ia epi ka epk ep kk t vsI pk (dq lv) (k:Int) (dd:Int) 0 ((aF pk).length:Int) ((items.length:Int)-1) (items.length:Int) Z V) hq ht hro fun Fz hz=>hd hz (decide_eq_false hA) (gi hz (lF (ts:=aF pk) (us:=[[46,46]]) (fun _=>⟨epk,pk,rfl,.inl (hz _ _ (hF _ _ hfk))⟩) (fun g=>⟨0,[([46,46],cZ (au g 0) 0)],rfl,.inr (.head _)⟩) (ofT e1) (gi hz (qO (ta:=[[]]) (tb:=[[46]]) (tx:=aF pk) (fun _=>.tail _ (.tail _ (.head _))) (fun g=>⟨0,[([],cZ (au g 0) 0)],rfl,.head _⟩) (fun g=>⟨0,[([46],cZ (au g 1) 0)],rfl,.tail _ (.head _)⟩) ⟨epk,pk,rfl,hz _ _ (hF _ _ hfk)⟩ i2 (qj (decide_eq_false (by lia)) (t6 hivl trivial))))))
       |some p=>
        exact cV (GQ w.params fr la it ia epi ka epk ep kk t vsI pk (dq lv) (k:Int) (dd:Int) 0 ((aF pk).length:Int) ((items.length:Int)-1) (items.length:Int) p.1 p.2 Z V) hq ht hro fun Fz hz=>hd hz (decide_eq_false hA) (gi hz (lF (ts:=aF pk) (us:=[[46,46]]) (fun _=>⟨epk,pk,rfl,.inl (hz _ _ (hF _ _ hfk))⟩) (fun g=>⟨0,[([46,46],cZ (au g 0) 0)],rfl,.inr (.head _)⟩) (ofT e1) (gi hz (qO (ta:=[[]]) (tb:=[[46]]) (tx:=aF pk) (fun _=>.tail _ (.tail _ (.head _))) (fun g=>⟨0,[([],cZ (au g 0) 0)],rfl,.head _⟩) (fun g=>⟨0,[([46],cZ (au g 1) 0)],rfl,.tail _ (.head _)⟩) ⟨epk,pk,rfl,hz _ _ (hF _ _ hfk)⟩ i2 (qj (decide_eq_false (by lia)) (t6 hivl trivial))))))
  )
  (fun s Fr Z V hF hI'=>by
   obtain⟨cur,dd,ep,lv⟩:=s
   refine cg hI' fun _ _ _ hcur=>?_
   cases cur with
   |none=>exact absurd (List.length_eq_zero_iff.mp (hcur rfl).1) hne
   |some p=>
    refine⟨Z+2,V+0,Nat.le_add_right _ _,fun k t=>?_⟩
    have e1:(items.length:Int)-1-(items.length:Int)=-1:=by lia
    have e2:(items.length:Int)-(items.length:Int)=0:=by lia
    refine dh ((o5 w.params fr la it ia ep k t (dq lv) (-1) (dd:Int) mk p.2 p.1 Z V).ex) fun R hR H hs htt=>?_
    refine⟨k,t,fun Fz hz=>?_⟩
    rw[e1,e2]
    have hF2:=hF.trans hz
    refine(iz (F:=Fz) (X:=fun _ _=>False) hR H hs htt (Sub.no _) (fun a o q=>hF2 _ _ (hkt a o q)) (fun _ q=>(nomatch q)) (RQ trivial)).post fun s r=>?_
    exact r.anti (Sub.orL _ _))
  items.length 0 (none,0,0,[]) Fn Z V (Nat.zero_add _) (Sub.refl _) ⟨Nat.zero_le _,rfl,Nat.le_refl _,fun _=>⟨rfl,rfl,rfl⟩⟩
 refine cg h3 fun _ h5 h6 h7=>?_
 simp only at h5 h6 h7
 rw[Nat.sub_self] at h5
 cases cur with
 |none=>exact absurd (List.length_eq_zero_iff.mp (h7 rfl).1) hne
 |some p=>
  refine⟨dd,ep,lv,p,Z',V',h1,h5.symm,h6,fun k t=>?_⟩
  refine aJ (h4 k t) fun k' t' h8=>?_
  refine⟨k',t',fun Fz hz=>?_⟩
  have:=(h8 Fz hz).post fun s r=>r.anti (Sub.orL _ _)
  simp only[Int.natCast_zero,Int.ofNat_zero,Int.sub_zero] at this
  exact this
end
end
structure LfO where
 kf:Hk→Tks→Hk
 tf:Hk→Tks→Tks
 dd:Nat
 lv:List (Nat×Nat)
 ep:Nat
 c:Int×Bool
 Z:Nat
 V:Nat
noncomputable def Je (P:Params)(fr la it ia:Nat)(mk:Bool)(x m:Int)(o:LfO)(g:Led):Ans:=
 ⟨oO P fr it,900,[(fr,nH (aP (au g 0)) (aN (au g 0)) ia mk 0 la none),(la,aa 0 []),(it,j8 x m)],.ok .next,
  [nH (o.kf (aP (au g 0)) (aN (au g 0))) (o.tf (aP (au g 0)) (aN (au g 0))) ia mk (o.dd:Int) la (some o.c),aa o.ep (dq o.lv),j8 (-1) 0],[],cQ,[],o.Z,o.V⟩
noncomputable def qi (ia:Nat)(mk:Bool)(ta la epl tk:Nat)(dI:Int)(lvs:List Value)(X:bw)(Z V:Nat):Ans:=
 ⟨.call (.ref 838) ⟨[.ref ia,.bool mk],[]⟩,700,[],.ok (.ret (.ref ta)),[],[],X,[(ta,iY [.int dI tk,.ref la]),(la,aa epl lvs)],Z,V⟩
noncomputable def bF (p:Addr×Obj)(a:Ans):Ans:=⟨a.c,a.lim,p::a.led,a.r,p.2::a.objs,a.new,a.X,a.ro,a.Z,a.V⟩
theorem uM P ia epi vsI mk m x o Z V:∃R,bh P none 700 97 0x10101040103000303030003000303010000000000000001000100010000000001010101000001010101000000 (.call (.ref 838) ⟨[.ref ia,.bool mk],[]⟩) [] Z V [(ia,aa epi vsI)] (cB 0 [] ia m (gY m 1 x (Pn x (Ol 4 x (ju 11 (Je P Z (Z+1) (Z+3) ia mk x (x+1) o) (Z+4) (V+13) (.nil))))))=R∧vw R 18=(true,true,.done (.ret (.ref o.Z)),[]++[(Z+1,aa o.ep (dq o.lv)),(o.Z,iY [.int (o.dd:Int) (cZ (rObj R 4) 0),.ref (Z+1)])],rights (cH R))∧dw R=o.Z+1:=⟨_,rfl,by kernel_rfl,by kernel_rfl⟩
section
open Builtin Builtin.Str Builtin.Int
section
variable {w:World} {J:Array GenState} {dr:Drawn} {os:Osw} {F:bw} {Z V:Nat}
theorem qL {a:Ans}{ro:Led}(h:bu aH w J dr os F a Z V)(hr:∀p∈ro,a.X p.1 p.2):bu aH w J dr os F ⟨a.c,a.lim,a.led,a.r,a.objs,a.new,a.X,ro,a.Z,a.V⟩ Z V:=⟨h.1,hr,h.2.2⟩
theorem fU {a:Ans}{p:Addr×Obj}(hn:a.new=[])(h:bu aH w J dr os (aj F (bG [p])) a Z V):bu aH w J dr os F (bF p a) Z V:=by
 obtain⟨c,lim,led,r,objs,new,X,ro,Z',V'⟩:=a
 simp only at hn
 subst hn
 have h1:=Bg (qL (ro:=[]) h fun _ q=>(nomatch q))
 exact qL (a:=⟨c,lim,p::led,r,p.2::objs,[],X,[],Z',V'⟩) h1 h.2.1
theorem oW {Fn:bw}(hkt:Sub (KF w.params) Fn)(ia epi:Nat)(vsI:List Value)(hI:Fn ia (aa epi vsI))(items:List (List (List Nat)))(hit:All2 (j0 Fn) vsI items)(hne:items≠[])(hlen:items.length≤40000)(hpos:∀x∈items,x≠[]∧x.length≤100000)(mk:Bool)(Z V:Nat):
  ∃(ta la epl tk dd:Nat) (lv:List (Nat×Nat)) (X:bw) (Z' V':Nat),Z≤Z'∧aW X Z∧cM items mk=(dd,lv.map (·.1))∧lv.length≤items.length∧X la (aa epl (dq lv))∧bu aH w J dr os Fn (qi ia mk ta la epl tk (dd:Int) (dq lv) X Z' V') Z V:=by
 refine Classical.byContradiction fun hNN=>?_
 have hvl:=hit.len
 have hpos1:0<items.length:=List.length_pos_iff.mpr hne
 refine sV (iu (w:=w) (J:=J) (dr:=dr) (os:=os) hkt Z (Z+1) (Z+3) ia epi vsI hI items hit hne hlen hpos mk (Z+4) (V+13)) fun dd ep lv c sz1 tok1 h1 h2 h3 h4=>?_
 generalize ho:(⟨fun k t=>(h4 k t).choose,fun k t=>(h4 k t).choose_spec.choose,dd,lv,ep,c,sz1,tok1⟩:LfO)=o
 have hloop:∀g,bu aH w J dr os Fn (Je w.params Z (Z+1) (Z+3) ia mk ((items.length:Int)-1) ((items.length:Int)-1+1) o g) (Z+4) (V+13):=fun g=>by
  have e:(items.length:Int)-1+1=(items.length:Int):=by omega
  rw[e,←ho]
  refine⟨fun _ _ q=>q.elim,fun _ q=>(nomatch q),fun Fz hF=>?_⟩
  exact((h4 (aP (au g 0)) (aN (au g 0))).choose_spec.choose_spec Fz hF).post fun s r=>r.anti fun b o q=>q.elim id fun q=>q.elim
 refine cj (uM w.params ia epi vsI mk (items.length:Int) ((items.length:Int)-1) o Z V) fun R hR H hs=>?_
 have eo:o.Z=sz1∧o.dd=dd∧o.lv=lv∧o.ep=ep:=by rw[←ho];exact⟨rfl,rfl,rfl,rfl⟩
 have hb:∀p∈([(Z+1,aa o.ep (dq o.lv)),(o.Z,iY [.int (o.dd:Int) (cZ (rObj R 4) 0),.ref (Z+1)])]:Led),Z≤p.1:=fun p hp=>by
  simp only[List.mem_cons,List.not_mem_nil,or_false] at hp
  rcases hp with rfl|rfl
  ·show Z≤Z+1;omega
  ·show Z≤o.Z;omega
 have hans:=oh (Fn:=Fn) (X:=cQ) (Xf:=rF R) hR H hs rfl rfl (Sub.no _) (aW.none _) hb hkt (fun p hp=>by rw[List.mem_singleton] at hp;subst hp;exact hI) fun Fz hz=>
  gf (.inl (hz _ _ hI)) (by rw[hvl]) (by omega) (pR rfl (Ry (by omega) (by omega) (PX (by omega) (by omega) fun g=>⟨(hloop g).mono' hz,trivial⟩)))
 refine hNN ⟨o.Z,Z+1,o.ep,cZ (rObj R 4) 0,dd,lv,aj cQ (bG [(Z+1,aa o.ep (dq o.lv)),(o.Z,iY [.int (o.dd:Int) (cZ (rObj R 4) 0),.ref (Z+1)])]),o.Z+1,bk R,?_,hans.1,h2,h3,?_,?_⟩
 ·show Z≤o.Z+1
  omega
 ·rw[←eo.2.2.1]
  exact .inr (.head _)
 ·have:=qL (ro:=[(o.Z,iY [.int (o.dd:Int) (cZ (rObj R 4) 0),.ref (Z+1)]),(Z+1,aa o.ep (dq o.lv))]) hans fun p hp=>by
   simp only[List.mem_cons,List.not_mem_nil,or_false] at hp
   rcases hp with rfl|rfl
   ·exact .inr (.tail _ (.head _))
   ·exact .inr (.head _)
  rw[eo.2.1,eo.2.2.1] at this ⊢
  exact this
end
end
theorem qW P l t n n2 Z V:∃R,bh P none 700 148 Wj (.call (.ref 845) ⟨[.str (nm l) t],[]⟩) [] Z V [] (aU (nm l) n (oA l 47 (aU (nm (l.dropWhile (·==47))) n2 (gY n n2 0 (.nil)))))=R∧vw R 0=(true,true,.done (.ret (.str (nm []) (iW R))),[]++[],rights (cH R))∧dw R=Z+6:=⟨_,rfl,by kernel_rfl,by kernel_rfl⟩
theorem q8 P l t n n2 Z V:∃R,bh P none 700 147 Wj (.call (.ref 845) ⟨[.str (nm l) t],[]⟩) [] Z V [] (aU (nm l) n (oA l 47 (aU (nm (l.dropWhile (·==47))) n2 (gY n n2 1 (.nil)))))=R∧vw R 0=(true,true,.done (.ret (.str (nm [47]) (iW R))),[]++[],rights (cH R))∧dw R=Z+6:=⟨_,rfl,by kernel_rfl,by kernel_rfl⟩
theorem qD P l t n n2 Z V:∃R,bh P none 700 60 (hc Rf 16 0) (.call (.ref 845) ⟨[.str (nm l) t],[]⟩) [] Z V [] (aU (nm l) n (oA l 47 (aU (nm (l.dropWhile (·==47))) n2 (gY n n2 2 (.nil)))))=R∧vw R 0=(true,true,.done (.ret (.str (nm [47,47]) (iW R))),[]++[],rights (cH R))∧dw R=Z+1:=⟨_,rfl,by kernel_rfl,by kernel_rfl⟩
theorem qT P l t n n2 dd Z V:∃R,bh P none 700 150 (hc (hc (hc (hc 0x404040603030203030003000304000404040100 280 Ug) 24 256) 176 Rf) 16 0) (.call (.ref 845) ⟨[.str (nm l) t],[]⟩) [] Z V [] (aU (nm l) n (oA l 47 (aU (nm (l.dropWhile (·==47))) n2 (gY n n2 dd (T7 dd 2 false (JX 1 dd true (.nil)))))))=R∧vw R 0=(true,true,.done (.ret (.str (nm [47]) (iW R))),[]++[],rights (cH R))∧dw R=Z+6:=⟨_,rfl,by kernel_rfl,by kernel_rfl⟩
section
open Builtin Builtin.Str Builtin.Int
noncomputable def Bc:Nat→List Nat
 |0=>[]
 |1=>[47]
 |2=>[47,47]
 |_=>[47]
noncomputable def rootOf (l:List Nat):List Nat:=Bc (l.takeWhile (·==47)).length
noncomputable def vY (lim f:Nat)(x:List Nat)(t:Nat)(y:List Nat)(u Z V:Nat):Ans:=⟨.call (.ref f) ⟨[.str (nm x) t],[]⟩,lim,[],.ok (.ret (.str (nm y) u)),[],[],cQ,[],Z,V⟩
section
variable {w:World} {J:Array GenState} {dr:Drawn} {os:Osw}
theorem ir {Fn:bw}(hkt:Sub (KF w.params) Fn)(l:List Nat)(hl:l.length≤50000)(t Z V:Nat):
  ∃u Z' V',Z≤Z'∧bu aH w J dr os Fn (vY 700 845 l t (rootOf l) u Z' V') Z V:=by
 have hsz:(nm l).length≤sizeLine:=by rw[mj,big];omega
 have hle:=(List.dropWhile_sublist (fun x=>x==47) (l:=l)).length_le
 have hsz2:(nm (l.dropWhile (·==47))).length≤sizeLine:=by rw[mj,big];omega
 have hsum:l.length-(l.dropWhile (·==47)).length=(l.takeWhile (·==47)).length:=by
  have e:=congrArg List.length (List.takeWhile_append_dropWhile (p:=fun x=>x==47) (l:=l))
  rw[List.length_append] at e
  omega
 generalize hk:(l.takeWhile (·==47)).length=k at hsum
 have hd:(l.length:Int)-((l.dropWhile (·==47)).length:Int)=(k:Int):=by omega
 have hr:rootOf l=Bc k:=by unfold rootOf;rw[hk]
 have base:∀{Fz:bw} {kk:Ant} {d:Int},(k:Int)=d→aA aH w J dr os Fz kk→aA aH w J dr os Fz (aU (nm l) (l.length:Int) (oA l 47 (aU (nm (l.dropWhile (·==47))) ((l.dropWhile (·==47)).length:Int) (gY (l.length:Int) ((l.dropWhile (·==47)).length:Int) d kk)))):=
  fun hkd h=>bY rfl hsz (Hd (by omega) (bY rfl hsz2 (pR (hd.trans hkd) h)))
 rcases k with _|_|_|k
 ·refine cj (qW w.params l t (l.length:Int) ((l.dropWhile (·==47)).length:Int) Z V) fun R hR H hs=>?_
  rw[hr]
  exact⟨iW R,_,bk R,Nat.le_add_right _ _,gZ hR H hs rfl hkt (fun _ q=>(nomatch q)) fun Fz _=>base rfl trivial⟩
 ·refine cj (q8 w.params l t (l.length:Int) ((l.dropWhile (·==47)).length:Int) Z V) fun R hR H hs=>?_
  rw[hr]
  exact⟨iW R,_,bk R,Nat.le_add_right _ _,gZ hR H hs rfl hkt (fun _ q=>(nomatch q)) fun Fz _=>base rfl trivial⟩
 ·refine cj (qD w.params l t (l.length:Int) ((l.dropWhile (·==47)).length:Int) Z V) fun R hR H hs=>?_
  rw[hr]
  exact⟨iW R,_,bk R,Nat.le_add_right _ _,gZ hR H hs rfl hkt (fun _ q=>(nomatch q)) fun Fz _=>base rfl trivial⟩
 ·refine cj (qT w.params l t (l.length:Int) ((l.dropWhile (·==47)).length:Int) ((k+1+1+1:Nat):Int) Z V) fun R hR H hs=>?_
  rw[hr]
  refine⟨iW R,_,bk R,Nat.le_add_right _ _,gZ hR H hs rfl hkt (fun _ q=>(nomatch q)) fun Fz _=>base rfl (WL ?_ (Fq ?_ trivial))⟩
  ·exact beq_eq_false_iff_ne.mpr (by omega)
  ·exact decide_eq_true (by omega)
end
end
theorem oH P l t o1 x1 n1 ta la epl tk dI lvs Xl szl tokl ru szr tokr kd o2 n2 pj kz x2 Z V:∃R,bh P none 600 219 (hc 0x101000100010b000b0d0b0e0e0e010c00c900c9c90101010101010a000a0a00000a 600 hb9) (.call (.ref 850) ⟨[.str (nm l) t],[]⟩) [] Z V [] (f9 l 47 (bc 60 (bF (Z+2,aa 0 (strValues (mO (nm l) (nm [47]) t (V+2)))) (cC 900 (dK (ux P) (vp P Z (Z+5)) (Z+3) (Z+4)) bz (Z+5) (Z+3) (Z+2) (Z+4) n1 (some x1) o1)) (Z+6) (V+2+lE (nm l) (nm [47])) (bc 20 (bF (Z+2,aa 0 (strValues (mO (nm l) (nm [47]) t (V+2)))) (bF (Z+4,aa o1.ep o1.vs) (qi (Z+4) false ta la epl tk dI lvs Xl szl tokl))) o1.Z o1.V (bc 0 (vY 700 845 l t [] ru szr tokr) (szl+3) (tokl+2) (bN (nm []) (nm []) true (qy 512 (fun _=>[(szr,aa 0 [(.str (nm [46,46]) (tokr+2))])]) (fun _=>szr) dI (fun _=>(.str (nm [46,46]) (tokr+2))) kd (bc 14342 (bF (Z+1,bU (.ref (Z+2))) (bF (Z+2,aa 0 (strValues (mO (nm l) (nm [47]) t (V+2)))) (cC 900 (dK (sy P) (tH P Z (Z+1) (szr+4)) (szr+2) (szr+3)) vK (szr+4) (szr+2) la (szr+3) n2 (some x2) o2))) (szr+5) (tokr+5) (dY 5120 [(szr+1,aa 0 (List.replicate kd (.str (nm [46,46]) (tokr+2)))),(szr+3,aa o2.ep o2.vs)] (szr+1) (szr+3) (List.replicate kd (.str (nm [46,46]) (tokr+2))) o2.vs (dF 16384 [(o2.Z,aa 0 (List.replicate kd (.str (nm [46,46]) (tokr+2))++o2.vs))] [47] o2.Z pj (dB [] (ao [47] (aF pj)) (aU (nm ([]++ao [47] (aF pj))) (Int.ofNat (kz+1)) (.nil))))))))))))=R∧vw R 0=(true,true,.done (.ret (.str (nm ([]++ao [47] (aF pj))) (iW R))),[]++[],rights (cH R))∧dw R=o2.Z+1:=⟨_,rfl,by kernel_rfl,by kernel_rfl⟩
theorem oN P l t o1 x1 n1 ta la epl tk dI lvs Xl szl tokl ru szr tokr kd o2 n2 pj kz Z V:∃R,bh P none 600 215 SQ (.call (.ref 850) ⟨[.str (nm l) t],[]⟩) [] Z V [] (f9 l 47 (bc 60 (bF (Z+2,aa 0 (strValues (mO (nm l) (nm [47]) t (V+2)))) (cC 900 (dK (ux P) (vp P Z (Z+5)) (Z+3) (Z+4)) bz (Z+5) (Z+3) (Z+2) (Z+4) n1 (some x1) o1)) (Z+6) (V+2+lE (nm l) (nm [47])) (bc 20 (bF (Z+2,aa 0 (strValues (mO (nm l) (nm [47]) t (V+2)))) (bF (Z+4,aa o1.ep o1.vs) (qi (Z+4) false ta la epl tk dI lvs Xl szl tokl))) o1.Z o1.V (bc 0 (vY 700 845 l t [] ru szr tokr) (szl+3) (tokl+2) (bN (nm []) (nm []) true (qy 512 (fun _=>[(szr,aa 0 [(.str (nm [46,46]) (tokr+2))])]) (fun _=>szr) dI (fun _=>(.str (nm [46,46]) (tokr+2))) kd (bc 14342 (bF (Z+1,bU (.ref (Z+2))) (bF (Z+2,aa 0 (strValues (mO (nm l) (nm [47]) t (V+2)))) (cC 900 (dK (sy P) (tH P Z (Z+1) (szr+4)) (szr+2) (szr+3)) vK (szr+4) (szr+2) la (szr+3) n2 none o2))) (szr+5) (tokr+5) (dY 5120 [(szr+1,aa 0 (List.replicate kd (.str (nm [46,46]) (tokr+2)))),(szr+3,aa o2.ep o2.vs)] (szr+1) (szr+3) (List.replicate kd (.str (nm [46,46]) (tokr+2))) o2.vs (dF 16384 [(o2.Z,aa 0 (List.replicate kd (.str (nm [46,46]) (tokr+2))++o2.vs))] [47] o2.Z pj (dB [] (ao [47] (aF pj)) (aU (nm ([]++ao [47] (aF pj))) (Int.ofNat (kz+1)) (.nil))))))))))))=R∧vw R 0=(true,true,.done (.ret (.str (nm ([]++ao [47] (aF pj))) (iW R))),[]++[],rights (cH R))∧dw R=o2.Z+1:=⟨_,rfl,by kernel_rfl,by kernel_rfl⟩
theorem oG P l t o1 x1 n1 ta la epl tk dI lvs Xl szl tokl ru szr tokr kd o2 n2 pj (kz:Nat) Z V:∃R,bh P none 600 216 SQ (.call (.ref 850) ⟨[.str (nm l) t],[]⟩) [] Z V [] (f9 l 47 (bc 60 (bF (Z+2,aa 0 (strValues (mO (nm l) (nm [47]) t (V+2)))) (cC 900 (dK (ux P) (vp P Z (Z+5)) (Z+3) (Z+4)) bz (Z+5) (Z+3) (Z+2) (Z+4) n1 (some x1) o1)) (Z+6) (V+2+lE (nm l) (nm [47])) (bc 20 (bF (Z+2,aa 0 (strValues (mO (nm l) (nm [47]) t (V+2)))) (bF (Z+4,aa o1.ep o1.vs) (qi (Z+4) false ta la epl tk dI lvs Xl szl tokl))) o1.Z o1.V (bc 0 (vY 700 845 l t [] ru szr tokr) (szl+3) (tokl+2) (bN (nm []) (nm []) true (qy 512 (fun _=>[(szr,aa 0 [(.str (nm [46,46]) (tokr+2))])]) (fun _=>szr) dI (fun _=>(.str (nm [46,46]) (tokr+2))) kd (bc 14342 (bF (Z+1,bU (.ref (Z+2))) (bF (Z+2,aa 0 (strValues (mO (nm l) (nm [47]) t (V+2)))) (cC 900 (dK (sy P) (tH P Z (Z+1) (szr+4)) (szr+2) (szr+3)) vK (szr+4) (szr+2) la (szr+3) n2 none o2))) (szr+5) (tokr+5) (dY 5120 [(szr+1,aa 0 (List.replicate kd (.str (nm [46,46]) (tokr+2)))),(szr+3,aa o2.ep o2.vs)] (szr+1) (szr+3) (List.replicate kd (.str (nm [46,46]) (tokr+2))) o2.vs (dF 16384 [(o2.Z,aa 0 (List.replicate kd (.str (nm [46,46]) (tokr+2))++o2.vs))] [47] o2.Z pj (dB [] (ao [47] (aF pj)) (aU (nm ([]++ao [47] (aF pj))) 0 (.nil))))))))))))=R∧vw R 0=(true,true,.done (.ret (.str (nm [46]) (iW R))),[]++[],rights (cH R))∧dw R=o2.Z+1:=⟨_,rfl,by kernel_rfl,by kernel_rfl⟩
theorem oJ P l t o1 x1 n1 ta la epl tk dI lvs Xl szl tokl ru szr tokr (kd:Nat) o2 n2 pj kz rr x2 Z V:∃R,bh P none 600 203 (hc 0x101000100010a000a0c0a0d0d0d010b00c900c9c901010101 600 hb9) (.call (.ref 850) ⟨[.str (nm l) t],[]⟩) [] Z V [] (f9 l 47 (bc 60 (bF (Z+2,aa 0 (strValues (mO (nm l) (nm [47]) t (V+2)))) (cC 900 (dK (ux P) (vp P Z (Z+5)) (Z+3) (Z+4)) bz (Z+5) (Z+3) (Z+2) (Z+4) n1 (some x1) o1)) (Z+6) (V+2+lE (nm l) (nm [47])) (bc 20 (bF (Z+2,aa 0 (strValues (mO (nm l) (nm [47]) t (V+2)))) (bF (Z+4,aa o1.ep o1.vs) (qi (Z+4) false ta la epl tk dI lvs Xl szl tokl))) o1.Z o1.V (bc 0 (vY 700 845 l t (47::rr) ru szr tokr) (szl+3) (tokl+2) (bN (nm (47::rr)) (nm []) false (bc 7174 (bF (Z+1,bU (.ref (Z+2))) (bF (Z+2,aa 0 (strValues (mO (nm l) (nm [47]) t (V+2)))) (cC 900 (dK (sy P) (tH P Z (Z+1) (szr+3)) (szr+1) (szr+2)) vK (szr+3) (szr+1) la (szr+2) n2 (some x2) o2))) (szr+4) (tokr+4) (dY 2560 [(szr,aa 0 []),(szr+2,aa o2.ep o2.vs)] szr (szr+2) [] o2.vs (dF 8192 [(o2.Z,aa 0 ([]++o2.vs))] [47] o2.Z pj (dB (47::rr) (ao [47] (aF pj)) (aU (nm ((47::rr)++ao [47] (aF pj))) (Int.ofNat (kz+1)) (.nil)))))))))))=R∧vw R 0=(true,true,.done (.ret (.str (nm ((47::rr)++ao [47] (aF pj))) (iW R))),[]++[],rights (cH R))∧dw R=o2.Z+1:=⟨_,rfl,by kernel_rfl,by kernel_rfl⟩
theorem pA P l t o1 x1 n1 ta la epl tk dI lvs Xl szl tokl ru szr tokr (kd:Nat) o2 n2 pj kz rr Z V:∃R,bh P none 600 199 (hc 0x101000100010a000a0c0a0d010b00c900c9c901010101 600 hb9) (.call (.ref 850) ⟨[.str (nm l) t],[]⟩) [] Z V [] (f9 l 47 (bc 60 (bF (Z+2,aa 0 (strValues (mO (nm l) (nm [47]) t (V+2)))) (cC 900 (dK (ux P) (vp P Z (Z+5)) (Z+3) (Z+4)) bz (Z+5) (Z+3) (Z+2) (Z+4) n1 (some x1) o1)) (Z+6) (V+2+lE (nm l) (nm [47])) (bc 20 (bF (Z+2,aa 0 (strValues (mO (nm l) (nm [47]) t (V+2)))) (bF (Z+4,aa o1.ep o1.vs) (qi (Z+4) false ta la epl tk dI lvs Xl szl tokl))) o1.Z o1.V (bc 0 (vY 700 845 l t (47::rr) ru szr tokr) (szl+3) (tokl+2) (bN (nm (47::rr)) (nm []) false (bc 7174 (bF (Z+1,bU (.ref (Z+2))) (bF (Z+2,aa 0 (strValues (mO (nm l) (nm [47]) t (V+2)))) (cC 900 (dK (sy P) (tH P Z (Z+1) (szr+3)) (szr+1) (szr+2)) vK (szr+3) (szr+1) la (szr+2) n2 none o2))) (szr+4) (tokr+4) (dY 2560 [(szr,aa 0 []),(szr+2,aa o2.ep o2.vs)] szr (szr+2) [] o2.vs (dF 8192 [(o2.Z,aa 0 ([]++o2.vs))] [47] o2.Z pj (dB (47::rr) (ao [47] (aF pj)) (aU (nm ((47::rr)++ao [47] (aF pj))) (Int.ofNat (kz+1)) (.nil)))))))))))=R∧vw R 0=(true,true,.done (.ret (.str (nm ((47::rr)++ao [47] (aF pj))) (iW R))),[]++[],rights (cH R))∧dw R=o2.Z+1:=⟨_,rfl,by kernel_rfl,by kernel_rfl⟩
noncomputable def Yb:Str:=nm [115,101,112]
noncomputable def XM:Str:=nm [100,111,116]
noncomputable def LK:Str:=nm [100,111,116,100,111,116]
noncomputable def XC:Str:=nm [95]
noncomputable def Zr:Str:=nm [105,110,105,116,105,97,108,95,115,108,97,115,104,101,115]
noncomputable def Rb:Str:=nm [99,111,109,112,115]
noncomputable def Yj:Str:=nm [110,101,119,95,99,111,109,112,115]
noncomputable def Wr:Str:=nm [99,111,109,112]
noncomputable def Zf (t:Tks)(rest root:List Nat)(ca na:Nat):List (Str×Value):=[(iT,.str (nm rest) (t 0)),(Yb,.str (nm [47]) (t 1)),(XM,.str (nm [46]) (t 2)),(LK,.str (nm [46,46]) (t 3)),(XC,.str (nm []) (t 4)),(Zr,.str (nm root) (t 5)),(Rb,.ref ca),(Yj,.ref na)]
noncomputable def qx (k:Hk)(t:Tks)(rest root:List Nat)(ca na:Nat)(cur:Option (List Nat)):Obj:=match cur with
 |none=>nZ iD k 8 (Zf t rest root ca na)
 |some x=>nZ iD k 9 (Zf t rest root ca na++[(Wr,.str (nm x) (t 8))])
noncomputable def sI (P:Params)(fr it:Nat):Code:=Jq (stOf P 126 6) it (envOf P 126 fr UJ [])
theorem MF P fr na ca it i ep tx k t rest vs root Z V:Fa (bh P none 900 20 18519084246581117696 (sI P fr it) [(fr,qx k t rest root ca na none),(na,aa ep vs),(it,cz ca i)] Z V [] (dU 4 it ca i (.str (nm []) tx) (aU (nm []) 0 (.nil)))) 7 (.again (sI P fr it)) (fun R=>[(fr,qx (ak R 0) (aq R 0) rest root ca na (some [])),(na,aa ep vs),(it,cz ca (i+1))]++[]) (Z+0) (V+3):=⟨by kernel_rfl⟩
theorem LR P fr na ca it i ep tx k t rest vs root Z V:Fa (bh P none 900 29 0x1000101010101010103000300 (sI P fr it) [(fr,qx k t rest root ca na none),(na,aa ep vs),(it,cz ca i)] Z V [] (dU 4 it ca i (.str (nm [46]) tx) (aU (nm [46]) 1 (bN (nm [46]) (nm [46]) true (.nil))))) 7 (.again (sI P fr it)) (fun R=>[(fr,qx (ak R 0) (aq R 0) rest root ca na (some [46])),(na,aa ep vs),(it,cz ca (i+1))]++[]) (Z+0) (V+3):=⟨by kernel_rfl⟩
theorem N7 P fr na ca it i ep tx k t rest vs root x c Z V:Fa (bh P none 900 55 Wg (sI P fr it) [(fr,qx k t rest root ca na none),(na,aa ep vs),(it,cz ca i)] Z V [] (dU 4 it ca i (.str (nm (c::x)) tx) (aU (nm (c::x)) (Int.ofNat (x.length+1)) (bN (nm (c::x)) (nm [46]) false (iK (nm (c::x)) (nm [46,46]) true (bZ 2 na ep vs (.str (nm (c::x)) tx) (.nil))))))) 7 (.again (sI P fr it)) (fun R=>[(fr,qx (ak R 0) (aq R 0) rest root ca na (some (c::x))),(na,aa (aB ep vs (.str (nm (c::x)) tx)) (vs++[.str (nm (c::x)) tx])),(it,cz ca (i+1))]++[]) (Z+0) (V+3):=⟨by kernel_rfl⟩
theorem JR (P:Params)(fr na ca it i ep tx:Nat)(k:Hk)(t:Tks)(rest:List Nat)(vs:List Value)(Z V:Nat):Fa (bh P none 900 67 Uz (sI P fr it) [(fr,qx k t rest [] ca na none),(na,aa ep vs),(it,cz ca i)] Z V [] (dU 4 it ca i (.str (nm [46,46]) tx) (aU (nm [46,46]) 2 (bN (nm [46,46]) (nm [46]) false (iK (nm [46,46]) (nm [46,46]) false (aU (nm []) 0 (cB 2 [(na,aa ep vs)] na 0 (bZ 2 na ep vs (.str (nm [46,46]) tx) (.nil))))))))) 7 (.again (sI P fr it)) (fun R=>[(fr,qx (ak R 0) (aq R 0) rest [] ca na (some [46,46])),(na,aa (aB ep vs (.str (nm [46,46]) tx)) (vs++[.str (nm [46,46]) tx])),(it,cz ca (i+1))]++[]) (Z+0) (V+7):=⟨by kernel_rfl⟩
theorem KY P fr na ca it i ep tx k t rest vs rr Z V:Fa (bh P none 900 58 Vu (sI P fr it) [(fr,qx k t rest (47::rr) ca na none),(na,aa ep vs),(it,cz ca i)] Z V [] (dU 4 it ca i (.str (nm [46,46]) tx) (aU (nm [46,46]) 2 (bN (nm [46,46]) (nm [46]) false (iK (nm [46,46]) (nm [46,46]) false (aU (nm (47::rr)) (Int.ofNat (rr.length+1)) (cB 2 [(na,aa ep vs)] na 0 (cB 2 [(na,aa ep vs)] na 0 (.nil))))))))) 7 (.again (sI P fr it)) (fun R=>[(fr,qx (ak R 0) (aq R 0) rest (47::rr) ca na (some [46,46])),(na,aa ep vs),(it,cz ca (i+1))]++[]) (Z+0) (V+9):=⟨by kernel_rfl⟩
theorem Lz P fr na ca it i ep tx k t rest vs root x0 Z V:Fa (bh P none 900 20 18519084246581117696 (sI P fr it) [(fr,qx k t rest root ca na (some x0)),(na,aa ep vs),(it,cz ca i)] Z V [] (dU 4 it ca i (.str (nm []) tx) (aU (nm []) 0 (.nil)))) 7 (.again (sI P fr it)) (fun R=>[(fr,qx (ak R 0) (aq R 0) rest root ca na (some [])),(na,aa ep vs),(it,cz ca (i+1))]++[]) (Z+0) (V+3):=⟨by kernel_rfl⟩
theorem Lq P fr na ca it i ep tx k t rest vs root x0 Z V:Fa (bh P none 900 29 0x1000101010101010103000300 (sI P fr it) [(fr,qx k t rest root ca na (some x0)),(na,aa ep vs),(it,cz ca i)] Z V [] (dU 4 it ca i (.str (nm [46]) tx) (aU (nm [46]) 1 (bN (nm [46]) (nm [46]) true (.nil))))) 7 (.again (sI P fr it)) (fun R=>[(fr,qx (ak R 0) (aq R 0) rest root ca na (some [46])),(na,aa ep vs),(it,cz ca (i+1))]++[]) (Z+0) (V+3):=⟨by kernel_rfl⟩
theorem Mr P fr na ca it i ep tx k t rest vs root x c x0 Z V:Fa (bh P none 900 55 Wg (sI P fr it) [(fr,qx k t rest root ca na (some x0)),(na,aa ep vs),(it,cz ca i)] Z V [] (dU 4 it ca i (.str (nm (c::x)) tx) (aU (nm (c::x)) (Int.ofNat (x.length+1)) (bN (nm (c::x)) (nm [46]) false (iK (nm (c::x)) (nm [46,46]) true (bZ 2 na ep vs (.str (nm (c::x)) tx) (.nil))))))) 7 (.again (sI P fr it)) (fun R=>[(fr,qx (ak R 0) (aq R 0) rest root ca na (some (c::x))),(na,aa (aB ep vs (.str (nm (c::x)) tx)) (vs++[.str (nm (c::x)) tx])),(it,cz ca (i+1))]++[]) (Z+0) (V+3):=⟨by kernel_rfl⟩
theorem I5 (P:Params)(fr na ca it i ep tx:Nat)(k:Hk)(t:Tks)(rest:List Nat)(vs:List Value)(x0:List Nat)(Z V:Nat):Fa (bh P none 900 67 Uz (sI P fr it) [(fr,qx k t rest [] ca na (some x0)),(na,aa ep vs),(it,cz ca i)] Z V [] (dU 4 it ca i (.str (nm [46,46]) tx) (aU (nm [46,46]) 2 (bN (nm [46,46]) (nm [46]) false (iK (nm [46,46]) (nm [46,46]) false (aU (nm []) 0 (cB 2 [(na,aa ep vs)] na 0 (bZ 2 na ep vs (.str (nm [46,46]) tx) (.nil))))))))) 7 (.again (sI P fr it)) (fun R=>[(fr,qx (ak R 0) (aq R 0) rest [] ca na (some [46,46])),(na,aa (aB ep vs (.str (nm [46,46]) tx)) (vs++[.str (nm [46,46]) tx])),(it,cz ca (i+1))]++[]) (Z+0) (V+7):=⟨by kernel_rfl⟩
theorem GZ P fr na ca it i ep tx k t rest vs y ty n x0 Z V:Fa (bh P none 900 97 (hc (hc (hc Ja 96 0x10200020202000001010202) 176 Jp) 16 768) (sI P fr it) [(fr,qx k t rest [] ca na (some x0)),(na,aa ep vs),(it,cz ca i)] Z V [] (dU 4 it ca i (.str (nm [46,46]) tx) (aU (nm [46,46]) 2 (bN (nm [46,46]) (nm [46]) false (iK (nm [46,46]) (nm [46,46]) false (aU (nm []) 0 (cB 2 [(na,aa ep vs)] na (Int.ofNat (n+1)) (cB 2 [(na,aa ep vs)] na (Int.ofNat (n+1)) (dC 2 [(na,aa ep vs)] na (.str (nm y) ty) (bN (nm y) (nm [46,46]) true (bZ 2 na ep vs (.str (nm [46,46]) tx) (.nil)))))))))))) 7 (.again (sI P fr it)) (fun R=>[(fr,qx (ak R 0) (aq R 0) rest [] ca na (some [46,46])),(na,aa (aB ep vs (.str (nm [46,46]) tx)) (vs++[.str (nm [46,46]) tx])),(it,cz ca (i+1))]++[]) (Z+0) (V+11):=⟨by kernel_rfl⟩
theorem Ht P fr na ca it i ep tx k t rest vs y ty n x0 Z V:Fa (bh P none 900 103 (hc (hc 0x10200020202020101020201010001010200020202000001010202 176 Jp) 16 768) (sI P fr it) [(fr,qx k t rest [] ca na (some x0)),(na,aa ep vs),(it,cz ca i)] Z V [] (dU 4 it ca i (.str (nm [46,46]) tx) (aU (nm [46,46]) 2 (bN (nm [46,46]) (nm [46]) false (iK (nm [46,46]) (nm [46,46]) false (aU (nm []) 0 (cB 2 [(na,aa ep vs)] na (Int.ofNat (n+1)) (cB 2 [(na,aa ep vs)] na (Int.ofNat (n+1)) (dC 2 [(na,aa ep vs)] na (.str (nm y) ty) (bN (nm y) (nm [46,46]) false (cB 2 [(na,aa ep vs)] na (Int.ofNat (n+1)) (Iv 2 na ep vs (.str (nm y) ty) (.nil))))))))))))) 7 (.again (sI P fr it)) (fun R=>[(fr,qx (ak R 0) (aq R 0) rest [] ca na (some [46,46])),(na,aa (gj ep vs fun xs=>xs.eraseIdxIfInBounds (vs.length-1)) vs.dropLast),(it,cz ca (i+1))]++[]) (Z+0) (V+13):=⟨by kernel_rfl⟩
theorem HJ P fr na ca it i ep tx k t rest vs y rr ty n x0 Z V:Fa (bh P none 900 96 (hc (hc 0x102000202020201010202010100010102000202020000 176 Jp) 16 768) (sI P fr it) [(fr,qx k t rest (47::rr) ca na (some x0)),(na,aa ep vs),(it,cz ca i)] Z V [] (dU 4 it ca i (.str (nm [46,46]) tx) (aU (nm [46,46]) 2 (bN (nm [46,46]) (nm [46]) false (iK (nm [46,46]) (nm [46,46]) false (aU (nm (47::rr)) (Int.ofNat (rr.length+1)) (cB 2 [(na,aa ep vs)] na (Int.ofNat (n+1)) (dC 2 [(na,aa ep vs)] na (.str (nm y) ty) (bN (nm y) (nm [46,46]) false (cB 2 [(na,aa ep vs)] na (Int.ofNat (n+1)) (Iv 2 na ep vs (.str (nm y) ty) (.nil)))))))))))) 7 (.again (sI P fr it)) (fun R=>[(fr,qx (ak R 0) (aq R 0) rest (47::rr) ca na (some [46,46])),(na,aa (gj ep vs fun xs=>xs.eraseIdxIfInBounds (vs.length-1)) vs.dropLast),(it,cz ca (i+1))]++[]) (Z+0) (V+11):=⟨by kernel_rfl⟩
theorem JZ P fr na ca it i ep tx k t rest vs rr x0 Z V:Fa (bh P none 900 58 Vu (sI P fr it) [(fr,qx k t rest (47::rr) ca na (some x0)),(na,aa ep vs),(it,cz ca i)] Z V [] (dU 4 it ca i (.str (nm [46,46]) tx) (aU (nm [46,46]) 2 (bN (nm [46,46]) (nm [46]) false (iK (nm [46,46]) (nm [46,46]) false (aU (nm (47::rr)) (Int.ofNat (rr.length+1)) (cB 2 [(na,aa ep vs)] na 0 (cB 2 [(na,aa ep vs)] na 0 (.nil))))))))) 7 (.again (sI P fr it)) (fun R=>[(fr,qx (ak R 0) (aq R 0) rest (47::rr) ca na (some [46,46])),(na,aa ep vs),(it,cz ca (i+1))]++[]) (Z+0) (V+9):=⟨by kernel_rfl⟩
theorem oR P fr na ca it i ep k t rest root x0 vs Z V:Fa (bh P none 900 8 4402391810816 (sI P fr it) [(fr,qx k t rest root ca na (some x0)),(na,aa ep vs),(it,cz ca i)] Z V [] (xK 4 it ca i (.nil))) 7 (.done .next) (fun _=>[(fr,qx k t rest root ca na (some x0)),(na,aa ep vs),(it,jo i)]++[]) (Z+2) (V+0):=⟨by kernel_rfl⟩
section
open Builtin Builtin.Str Builtin.Int
noncomputable def bf (root:List Nat)(st:List (List Nat))(x:List Nat):List (List Nat):=
 if x=[]∨x=[46] then st
 else if x≠[46,46] then st++[x]
 else if(root=[]∧st=[])∨st.getLast?=some [46,46] then st++[x]
 else st.dropLast
theorem ph {a b:List Nat}(h:a≠b):((nm a).cps.toList==(nm b).cps.toList)=false:=beq_eq_false_iff_ne.mpr h
theorem uh {a b:List Nat}(h:a≠b):((nm a).cps.toList != (nm b).cps.toList)=true:=bne_iff_ne.mpr h
theorem kO {root:List Nat}{st:List (List Nat)}{x:List Nat}(hr:root≠[])(h:∀y∈st,y≠[46,46]):∀y∈bf root st x,y≠[46,46]:=by
 unfold bf
 split
 ·exact h
 ·split
  ·rename_i h1
   intro y hy
   rcases List.mem_append.mp hy with z|z
   ·exact h y z
   ·rw[List.mem_singleton.mp z];exact h1
  ·split
   ·rename_i h1
    rcases h1 with⟨e,_⟩|e
    ·exact absurd e hr
    ·exact absurd rfl (h _ (List.mem_of_getLast? e))
   ·intro y hy
    exact h y (List.dropLast_subset st hy)
noncomputable def YF (ps:List (List Nat×Nat)):List (List Nat×Nat):=ps.dropLast
theorem Bd (ps:List (List Nat×Nat)):(tvs ps).dropLast=tvs ps.dropLast:=by unfold tvs;rw[List.map_dropLast]
theorem BX (ps:List (List Nat×Nat)):(aF ps).dropLast=aF ps.dropLast:=by unfold aF;rw[List.map_dropLast]
theorem iU (ps:List (List Nat×Nat))(x:List Nat)(t:Nat):tvs ps++[.str (nm x) t]=tvs (ps++[(x,t)]):=by unfold tvs;rw[List.map_append];rfl
theorem fW (ps:List (List Nat×Nat))(x:List Nat)(t:Nat):aF (ps++[(x,t)])=aF ps++[x]:=by unfold aF;rw[List.map_append];rfl
section
variable {w:World} {J:Array GenState} {dr:Drawn} {os:Osw}
theorem G9 {Fn:bw}(hkt:Sub (KF w.params) Fn)(fr na ca it epc:Nat)(pc:List (List Nat×Nat))(hc:Fn ca (aa epc (tvs pc)))(hne:pc≠[])(hlen:pc.length≤40000)(hsz:∀p∈pc,p.1.length≤100000)(rest root:List Nat)(hroot:root=[]∨∃rr,root=47::rr)(hrl:root.length≤100000)(Z V:Nat):
  ∃(ps:List (List Nat×Nat)) (ep:Nat) (x:List Nat) (Z' V':Nat),Z≤Z'∧aF ps=(aF pc).foldl (bf root) []∧ps.length≤pc.length∧∀k t,∃k' t',∀Fz,Sub Fn Fz→
   jO aH w J dr os 900 (sI w.params fr it) Fz [(fr,qx k t rest root ca na none),(na,aa 0 []),(it,cz ca 0)] Z V (.ok .next) Fz [(fr,qx k' t' rest root ca na (some x)),(na,aa ep (tvs ps)),(it,jo pc.length)] Z' V':=by
 have hq:(sI w.params fr it).quiet=true:=by kernel_rfl
 have hsl:∀l:List Nat,l.length≤100000→(nm l).length≤sizeLine:=fun l h=>by rw[mj,big];lia
 obtain⟨⟨cur,ep,ps⟩,X,Z',V',h1,h2,h3,h4⟩:=xP (w:=w) (J:=J) (dr:=dr) (os:=os) (lim:=900) (c:=sI w.params fr it) (r:=.ok .next) (S:=Option (List Nat)×Nat×List (List Nat×Nat)) (n:=pc.length) (Fn:=Fn)
  (ld:=fun i s k t=>[(fr,qx k t rest root ca na s.1),(na,aa s.2.1 (tvs s.2.2)),(it,cz ca i)]) (ld':=fun s k t=>[(fr,qx k t rest root ca na s.1),(na,aa s.2.1 (tvs s.2.2)),(it,jo pc.length)])
  (I:=fun i s Fr=>aF s.2.2=((aF pc).take i).foldl (bf root) []∧s.2.2.length≤i∧(s.1=none→i=0∧s.2.2=[])∧(root≠[]→∀y∈aF s.2.2,y≠[46,46]))
  (fun i s Fr Z V hi hF hI=>by
   refine Classical.byContradiction fun hNN=>?_
   obtain⟨cur,ep,ps⟩:=s
   refine cg hI fun hfold hps hcur hinv=>?_
   simp only at hfold hps hcur hinv
   have hget:pc[i]?=some pc[i]:=List.getElem?_eq_getElem hi
   generalize hp:pc[i]=p at hget
   obtain⟨x,tx⟩:=p
   have hxi:(tvs pc)[i]?=some (.str (nm x) tx):=by rw[uA,hget];rfl
   have hxl:x.length≤100000:=hsz (x,tx) (List.mem_of_getElem? hget)
   have hpl:(tvs ps).length≤50000:=by rw[aG];lia
   have htake:((aF pc).take (i+1)).foldl (bf root) []=bf root (aF ps) x:=by
    rw[List.take_add_one,List.foldl_append,←hfold]
    have:(aF pc)[i]?=some x:=by unfold aF;rw[List.getElem?_map,hget];rfl
    rw[this]
    rfl
   have nx:∀{Fz:bw} {kk:Ant},Sub Fr Fz→aA aH w J dr os Fz kk→aA aH w J dr os Fz (dU 4 it ca i (.str (nm x) tx) kk):=fun hz h=>gO (hz _ _ (hF _ _ hc)) hxi h
   have ht:Sub (KF w.params) Fr:=hkt.trans hF
   have XN:aW (aj (fun _ _=>False) (bG [])) Z:=(aW.none _).or (aW.frL (fun _ h=>(nomatch h)))
   by_cases h1:x=[]
   ·subst h1
    have hst:aF ps=bf root (aF ps) []:=(by unfold bf;rw[if_pos (.inl rfl)])
    refine hNN ⟨(some [],ep,ps),aj (fun _ _=>False) (bG []),Z+0,V+3,Nat.le_refl _,XN,⟨hst.trans htake.symm,(by show ps.length≤i+1;lia),fun q=>(nomatch q),fun hr=>by rw[hst];exact kO hr (hinv hr)⟩,fun k t=>?_⟩
    clear hNN
    cases cur with
    |none=>
     exact cV (MF w.params fr na ca it i ep tx k t rest (tvs ps) root Z V) hq ht (fun _ q=>(nomatch q)) fun Fz hz=>nx hz (bY rfl (hsl _ hxl) trivial)
    |some x0=>
     exact cV (Lz w.params fr na ca it i ep tx k t rest (tvs ps) root x0 Z V) hq ht (fun _ q=>(nomatch q)) fun Fz hz=>nx hz (bY rfl (hsl _ hxl) trivial)
   by_cases h2:x=[46]
   ·subst h2
    have hst:aF ps=bf root (aF ps) [46]:=(by unfold bf;rw[if_pos (.inr rfl)])
    refine hNN ⟨(some [46],ep,ps),aj (fun _ _=>False) (bG []),Z+0,V+3,Nat.le_refl _,XN,⟨hst.trans htake.symm,(by show ps.length≤i+1;lia),fun q=>(nomatch q),fun hr=>by rw[hst];exact kO hr (hinv hr)⟩,fun k t=>?_⟩
    clear hNN
    cases cur with
    |none=>
     exact cV (LR w.params fr na ca it i ep tx k t rest (tvs ps) root Z V) hq ht (fun _ q=>(nomatch q)) fun Fz hz=>nx hz (bY rfl (hsl _ hxl) (gm rfl trivial))
    |some x0=>
     exact cV (Lq w.params fr na ca it i ep tx k t rest (tvs ps) root x0 Z V) hq ht (fun _ q=>(nomatch q)) fun Fz hz=>nx hz (bY rfl (hsl _ hxl) (gm rfl trivial))
   by_cases h3:x≠[46,46]
   ·refine aJ (by cases x with|nil=>exact absurd rfl h1|cons c y=>exact⟨c,y,rfl⟩:∃c y,x=c::y) fun c x er0=>?_;subst er0
    have hst:aF (ps++[(c::x,tx)])=bf root (aF ps) (c::x):=(by rw[fW];unfold bf;rw[if_neg (fun e=>e.elim h1 h2),if_pos h3])
    refine hNN ⟨(some (c::x),(aB ep (tvs ps) (.str (nm (c::x)) tx)),(ps++[(c::x,tx)])),aj (fun _ _=>False) (bG []),Z+0,V+3,Nat.le_refl _,XN,⟨hst.trans htake.symm,(by show(ps++[(c::x,tx)]).length≤i+1;rw[List.length_append];show ps.length+1≤_;lia),fun q=>(nomatch q),fun hr=>by rw[hst];exact kO hr (hinv hr)⟩,fun k t=>?_⟩
    clear hNN
    cases cur with
    |none=>
     exact iU ps (c::x) tx▸cV (N7 w.params fr na ca it i ep tx k t rest (tvs ps) root x c Z V) hq ht (fun _ q=>(nomatch q)) fun Fz hz=>nx hz (bY rfl (hsl _ hxl) (gm (ph h2) (pZ (uh h3) (eO hpl trivial))))
    |some x0=>
     exact iU ps (c::x) tx▸cV (Mr w.params fr na ca it i ep tx k t rest (tvs ps) root x c x0 Z V) hq ht (fun _ q=>(nomatch q)) fun Fz hz=>nx hz (bY rfl (hsl _ hxl) (gm (ph h2) (pZ (uh h3) (eO hpl trivial))))
   have h4:x=[46,46]:=Decidable.byContradiction h3
   subst h4
   have hb:∀{Fz:bw} {kk:Ant},aA aH w J dr os Fz kk→aA aH w J dr os Fz (aU (nm [46,46]) 2 (bN (nm [46,46]) (nm [46]) false (iK (nm [46,46]) (nm [46,46]) false kk))):=fun h=>bY rfl (hsl _ hxl) (gm rfl (pZ rfl h))
   have hnn:¬(([46,46]:List Nat)=[]∨([46,46]:List Nat)=[46]):=by decide
   rcases List.eq_nil_or_concat ps with he|⟨ps',⟨y,ty⟩,he⟩
   ·subst he
    rcases hroot with hr0|⟨rr,hr1⟩
    ·subst hr0
     have hst:aF [([46,46],tx)]=bf [] (aF []) [46,46]:=(by unfold bf;rw[if_neg hnn,if_neg (by simp),if_pos (.inl ⟨rfl,rfl⟩)];rfl)
     refine hNN ⟨(some [46,46],(aB ep (tvs []) (.str (nm [46,46]) tx)),[([46,46],tx)]),aj (fun _ _=>False) (bG []),Z+0,V+7,Nat.le_refl _,XN,⟨hst.trans htake.symm,(by show 1≤i+1;lia),fun q=>(nomatch q),fun hr=>by rw[hst];exact kO hr (hinv hr)⟩,fun k t=>?_⟩
     clear hNN
     cases cur with
     |none=>
      exact cV (JR w.params fr na ca it i ep tx k t rest (tvs [])  Z V) hq ht (fun _ q=>(nomatch q)) fun Fz hz=>nx hz (hb (bY rfl (hsl [] (Nat.zero_le _)) (gf (.inr (.head _)) rfl (Nat.zero_le _) (eO (Nat.zero_le _) trivial))))
     |some x0=>
      exact cV (I5 w.params fr na ca it i ep tx k t rest (tvs [])  x0 Z V) hq ht (fun _ q=>(nomatch q)) fun Fz hz=>nx hz (hb (bY rfl (hsl [] (Nat.zero_le _)) (gf (.inr (.head _)) rfl (Nat.zero_le _) (eO (Nat.zero_le _) trivial))))
    ·subst hr1
     have hst:aF ([]:List (List Nat×Nat))=bf (47::rr) (aF []) [46,46]:=(by unfold bf;rw[if_neg hnn,if_neg (by simp),if_neg (by simp[aF])];rfl)
     refine hNN ⟨(some [46,46],ep,([]:List (List Nat×Nat))),aj (fun _ _=>False) (bG []),Z+0,V+9,Nat.le_refl _,XN,⟨hst.trans htake.symm,(Nat.zero_le _),fun q=>(nomatch q),fun hr=>by rw[hst];exact kO hr (hinv hr)⟩,fun k t=>?_⟩
     clear hNN
     cases cur with
     |none=>
      exact cV (KY w.params fr na ca it i ep tx k t rest (tvs []) rr Z V) hq ht (fun _ q=>(nomatch q)) fun Fz hz=>nx hz (hb (bY rfl (hsl _ hrl) (gf (.inr (.head _)) rfl (Nat.zero_le _) (gf (.inr (.head _)) rfl (Nat.zero_le _) trivial))))
     |some x0=>
      exact cV (JZ w.params fr na ca it i ep tx k t rest (tvs []) rr x0 Z V) hq ht (fun _ q=>(nomatch q)) fun Fz hz=>nx hz (hb (bY rfl (hsl _ hrl) (gf (.inr (.head _)) rfl (Nat.zero_le _) (gf (.inr (.head _)) rfl (Nat.zero_le _) trivial))))
   ·cases cur with
    |none=>exact absurd (hcur rfl).2 (by rw[he];simp)
    |some x0=>
     have hlenI:((tvs ps).length:Int)=Int.ofNat (ps'.length+1):=by rw[aG,he,List.concat_eq_append,List.length_append];rfl
     have hlastv:(tvs ps).getLast?=some (.str (nm y) ty):=by rw[he,List.concat_eq_append,←iU];simp
     have hlast:(aF ps).getLast?=some y:=by rw[he,List.concat_eq_append,fW];simp
     have hne0:aF ps≠[]:=by intro e;rw[e] at hlast;cases hlast
     rcases hroot with hr0|⟨rr,hr1⟩
     ·subst hr0
      by_cases hy:y=[46,46]
      ·subst hy
       have hst:aF (ps++[([46,46],tx)])=bf [] (aF ps) [46,46]:=(by rw[fW];unfold bf;rw[if_neg hnn,if_neg (by simp),if_pos (.inr hlast)])
       refine hNN ⟨(some [46,46],(aB ep (tvs ps) (.str (nm [46,46]) tx)),(ps++[([46,46],tx)])),aj (fun _ _=>False) (bG []),Z+0,V+11,Nat.le_refl _,XN,⟨hst.trans htake.symm,(by show(ps++[([46,46],tx)]).length≤i+1;rw[List.length_append];show ps.length+1≤_;lia),fun q=>(nomatch q),fun hr=>by rw[hst];exact kO hr (hinv hr)⟩,fun k t=>?_⟩
       exact iU ps [46,46] tx▸cV (GZ w.params fr na ca it i ep tx k t rest (tvs ps) [46,46] ty ps'.length x0 Z V) hq ht (fun _ q=>(nomatch q)) fun Fz hz=>nx hz (hb (bY rfl (hsl [] (Nat.zero_le _)) (gf (.inr (.head _)) hlenI (by rw[aG];lia) (gf (.inr (.head _)) hlenI (by rw[aG];lia) (fu (.inr (.head _)) hlastv (gm rfl (eO hpl trivial)))))))
      ·skip
       have hst:aF ps.dropLast=bf [] (aF ps) [46,46]:=(by unfold bf;rw[if_neg hnn,if_neg (by simp),if_neg (fun e=>e.elim (fun z=>hne0 z.2) fun z=>hy (Option.some.inj (hlast.symm.trans z))),BX])
       refine hNN ⟨(some [46,46],(gj ep (tvs ps) fun xs=>xs.eraseIdxIfInBounds ((tvs ps).length-1)),ps.dropLast),aj (fun _ _=>False) (bG []),Z+0,V+13,Nat.le_refl _,XN,⟨hst.trans htake.symm,(by show ps.dropLast.length≤i+1;rw[List.length_dropLast];lia),fun q=>(nomatch q),fun hr=>by rw[hst];exact kO hr (hinv hr)⟩,fun k t=>?_⟩
       exact Bd ps▸cV (Ht w.params fr na ca it i ep tx k t rest (tvs ps) y ty ps'.length x0 Z V) hq ht (fun _ q=>(nomatch q)) fun Fz hz=>nx hz (hb (bY rfl (hsl [] (Nat.zero_le _)) (gf (.inr (.head _)) hlenI (by rw[aG];lia) (gf (.inr (.head _)) hlenI (by rw[aG];lia) (fu (.inr (.head _)) hlastv (gm (ph hy) (gf (.inr (.head _)) hlenI (by rw[aG];lia) (Jd hlastv (by rw[aG];lia) trivial))))))))
     ·subst hr1
      have hy:y≠[46,46]:=hinv (by simp) y (List.mem_of_getLast? hlast)
      have hst:aF ps.dropLast=bf (47::rr) (aF ps) [46,46]:=(by unfold bf;rw[if_neg hnn,if_neg (by simp),if_neg (fun e=>e.elim (fun z=>(nomatch z.1)) fun z=>hy (Option.some.inj (hlast.symm.trans z))),BX])
      refine hNN ⟨(some [46,46],(gj ep (tvs ps) fun xs=>xs.eraseIdxIfInBounds ((tvs ps).length-1)),ps.dropLast),aj (fun _ _=>False) (bG []),Z+0,V+11,Nat.le_refl _,XN,⟨hst.trans htake.symm,(by show ps.dropLast.length≤i+1;rw[List.length_dropLast];lia),fun q=>(nomatch q),fun hr=>by rw[hst];exact kO hr (hinv hr)⟩,fun k t=>?_⟩
      exact Bd ps▸cV (HJ w.params fr na ca it i ep tx k t rest (tvs ps) y rr ty ps'.length x0 Z V) hq ht (fun _ q=>(nomatch q)) fun Fz hz=>nx hz (hb (bY rfl (hsl _ hrl) (gf (.inr (.head _)) hlenI (by rw[aG];lia) (fu (.inr (.head _)) hlastv (gm (ph hy) (gf (.inr (.head _)) hlenI (by rw[aG];lia) (Jd hlastv (by rw[aG];lia) trivial)))))))
  )
  (fun s Fr Z V hF hI=>by
   obtain⟨cur,ep,ps⟩:=s
   refine cg hI fun _ _ hcur _=>?_
   cases cur with
   |none=>exact absurd (List.length_eq_zero_iff.mp (hcur rfl).1) hne
   |some x0=>
    refine⟨Z+2,V+0,Nat.le_add_right _ _,fun k t=>?_⟩
    refine dh ((oR w.params fr na ca it pc.length ep k t rest root x0 (tvs ps) Z V).ex) fun R hR H hs htt=>?_
    refine⟨k,t,fun Fz hz=>?_⟩
    have hF2:=hF.trans hz
    refine(iz (F:=Fz) (X:=fun _ _=>False) hR H hs htt (Sub.no _) (fun a o q=>hF2 _ _ (hkt a o q)) (fun _ q=>(nomatch q)) (vm (hF2 _ _ hc) (by rw[←aG pc];exact List.getElem?_eq_none (Nat.le_refl _)) trivial)).post fun s r=>?_
    exact r.anti (Sub.orL _ _))
  pc.length 0 (none,0,[]) Fn Z V (Nat.zero_add _) (Sub.refl _) ⟨rfl,Nat.le_refl _,fun _=>⟨rfl,rfl⟩,fun _ y hy=>(nomatch hy)⟩
 have h5:=h3.1
 rw[show pc.length=(aF pc).length from(cJ pc).symm,List.take_length] at h5
 cases cur with
 |none=>exact absurd (List.length_eq_zero_iff.mp (h3.2.2.1 rfl).1) hne
 |some x0=>
  refine⟨ps,ep,x0,Z',V',h1,h5,h3.2.1,fun k t=>?_⟩
  refine aJ (h4 k t) fun k' t' h6=>?_
  exact⟨k',t',fun Fz hz=>(h6 Fz hz).post fun s r=>r.anti (Sub.orL _ _)⟩
end
end
structure NpO where
 kf:Hk→Tks→Hk
 tf:Hk→Tks→Tks
 ps:List (List Nat×Nat)
 ep:Nat
 x:List Nat
 Z:Nat
 V:Nat
noncomputable def sY (P:Params)(fr ca na it n:Nat)(vs:List Value)(rest root:List Nat)(o:NpO)(g:Led):Ans:=
 ⟨sI P fr it,900,[(fr,qx (aP (au g 0)) (aN (au g 0)) rest root ca na none),(ca,aa 0 vs),(na,aa 0 []),(it,cz ca 0)],.ok .next,
  [qx (o.kf (aP (au g 0)) (aN (au g 0))) (o.tf (aP (au g 0)) (aN (au g 0))) rest root ca na (some o.x),aa 0 vs,aa o.ep (tvs o.ps),jo n],[],cQ,[],o.Z,o.V⟩
theorem qQ P t Z V:∃R,bh P none 600 148 (hc (hc 1 400 Vb) 112 0x200000000010000000101000000) (.call (.ref 126) ⟨[.str (nm []) t],[]⟩) [] Z V [] (aU (nm []) 0 (.nil))=R∧vw R 0=(true,true,.done (.ret (.str (nm [46]) (iW R))),[]++[],rights (cH R))∧dw R=Z+3:=⟨_,rfl,by kernel_rfl,by kernel_rfl⟩
theorem o8 P c n k x t o Z V:∃R,bh P none 600 473 (hc (hc (hc VG 56 0x8000808080404) 1040 hb2) 32 0x1000000) (.call (.ref 126) ⟨[.str (nm (c::x)) t],[]⟩) [] Z V [] (aU (nm (c::x)) (Int.ofNat (x.length+1)) (pL 64 none (some 1) (c::x) (iK (nm (dX none (some 1) (c::x))) (nm [47]) true (f9 (c::x) 47 (ju 14337 (sY P Z (Z+11) (Z+12) (Z+13) n (strValues (mO (nm (c::x)) (nm [47]) t ((bA none (some 1) (c::x) (V+23))+3))) (c::x) [] o) (Z+14) ((bA none (some 1) (c::x) (V+23))+3+lE (nm (c::x)) (nm [47])+2) (dF 4096 [((Z+12),aa o.ep (tvs o.ps))] [47] (Z+12) o.ps (dB [] (ao [47] (aF o.ps)) (aU (nm ([]++ao [47] (aF o.ps))) (Int.ofNat (k+1)) (.nil)))))))))=R∧vw R 0=(true,true,.done (.ret (.str (nm ([]++ao [47] (aF o.ps))) (iW R))),[]++[],rights (cH R))∧dw R=o.Z+0:=⟨_,rfl,by kernel_rfl,by kernel_rfl⟩
theorem oM P c n (k:Nat) x t o Z V:∃R,bh P none 600 475 (hc (hc (hc (hc 1 600 VG) 56 0x8000808080404) 1040 hb2) 32 0x1000000) (.call (.ref 126) ⟨[.str (nm (c::x)) t],[]⟩) [] Z V [] (aU (nm (c::x)) (Int.ofNat (x.length+1)) (pL 64 none (some 1) (c::x) (iK (nm (dX none (some 1) (c::x))) (nm [47]) true (f9 (c::x) 47 (ju 14337 (sY P Z (Z+11) (Z+12) (Z+13) n (strValues (mO (nm (c::x)) (nm [47]) t ((bA none (some 1) (c::x) (V+23))+3))) (c::x) [] o) (Z+14) ((bA none (some 1) (c::x) (V+23))+3+lE (nm (c::x)) (nm [47])+2) (dF 4096 [((Z+12),aa o.ep (tvs o.ps))] [47] (Z+12) o.ps (dB [] (ao [47] (aF o.ps)) (aU (nm ([]++ao [47] (aF o.ps))) 0 (.nil)))))))))=R∧vw R 0=(true,true,.done (.ret (.str (nm [46]) (iW R))),[]++[],rights (cH R))∧dw R=o.Z+0:=⟨_,rfl,by kernel_rfl,by kernel_rfl⟩
theorem mF P c n k x t o Z V:∃R,bh P none 600 496 (hc (hc (hc (hc (hc Nr 56 0x110000e000e0e) 112 Mv) 440 0x10d0b0b0a0b0b000b000b0b0b0a0b0b000b000b0b0b0a0b0b000b000b0b0b0a0b0b000b000b0b000a000a0a0a01000404040100040100) 1040 hb2) 32 0x1000000) (.call (.ref 126) ⟨[.str (nm (c::x)) t],[]⟩) [] Z V [] (aU (nm (c::x)) (Int.ofNat (x.length+1)) (pL 64 none (some 1) (c::x) (iK (nm (dX none (some 1) (c::x))) (nm [47]) false (pL 128 (some 1) (some 2) (c::x) (iK (nm (dX (some 1) (some 2) (c::x))) (nm [47]) true (pL 256 (some 1) none (c::x) (f9 (dX (some 1) none (c::x)) 47 (ju 57345 (sY P Z (Z+13) (Z+14) (Z+15) n (strValues (mO (nm (dX (some 1) none (c::x))) (nm [47]) (vN (some 1) none (c::x) t ((bA (some 1) (some 2) (c::x) ((bA none (some 1) (c::x) (V+23))+2))+1)) ((bA (some 1) none (c::x) ((bA (some 1) (some 2) (c::x) ((bA none (some 1) (c::x) (V+23))+2))+1))+3))) (dX (some 1) none (c::x)) [47] o) (Z+16) ((bA (some 1) none (c::x) ((bA (some 1) (some 2) (c::x) ((bA none (some 1) (c::x) (V+23))+2))+1))+3+lE (nm (dX (some 1) none (c::x))) (nm [47])+2) (dF 16384 [((Z+14),aa o.ep (tvs o.ps))] [47] (Z+14) o.ps (dB [47] (ao [47] (aF o.ps)) (aU (nm ([47]++ao [47] (aF o.ps))) (Int.ofNat (k+1)) (.nil))))))))))))=R∧vw R 0=(true,true,.done (.ret (.str (nm ([47]++ao [47] (aF o.ps))) (iW R))),[]++[],rights (cH R))∧dw R=o.Z+0:=⟨_,rfl,by kernel_rfl,by kernel_rfl⟩
theorem mG P c n k x t o Z V:∃R,bh P none 600 512 (hc (hc (hc (hc (hc Nr 56 0x111000f000f0f) 112 Mv) 488 0x10e0c0c0b0c0c000c000c0c0c0b0c0c000c000c0c0c0b0c0c000c000c0c0c0b0c0c000c000c0c000b000b0b0b01000404040100040100040100040100) 1040 hb2) 32 0x1000000) (.call (.ref 126) ⟨[.str (nm (c::x)) t],[]⟩) [] Z V [] (aU (nm (c::x)) (Int.ofNat (x.length+1)) (pL 64 none (some 1) (c::x) (iK (nm (dX none (some 1) (c::x))) (nm [47]) false (pL 128 (some 1) (some 2) (c::x) (iK (nm (dX (some 1) (some 2) (c::x))) (nm [47]) false (pL 256 (some 2) (some 3) (c::x) (bN (nm (dX (some 2) (some 3) (c::x))) (nm [47]) true (pL 512 (some 1) none (c::x) (f9 (dX (some 1) none (c::x)) 47 (ju 114689 (sY P Z (Z+14) (Z+15) (Z+16) n (strValues (mO (nm (dX (some 1) none (c::x))) (nm [47]) (vN (some 1) none (c::x) t ((bA (some 2) (some 3) (c::x) ((bA (some 1) (some 2) (c::x) ((bA none (some 1) (c::x) (V+23))+2))+2))+1)) ((bA (some 1) none (c::x) ((bA (some 2) (some 3) (c::x) ((bA (some 1) (some 2) (c::x) ((bA none (some 1) (c::x) (V+23))+2))+2))+1))+3))) (dX (some 1) none (c::x)) [47] o) (Z+17) ((bA (some 1) none (c::x) ((bA (some 2) (some 3) (c::x) ((bA (some 1) (some 2) (c::x) ((bA none (some 1) (c::x) (V+23))+2))+2))+1))+3+lE (nm (dX (some 1) none (c::x))) (nm [47])+2) (dF 32768 [((Z+15),aa o.ep (tvs o.ps))] [47] (Z+15) o.ps (dB [47] (ao [47] (aF o.ps)) (aU (nm ([47]++ao [47] (aF o.ps))) (Int.ofNat (k+1)) (.nil))))))))))))))=R∧vw R 0=(true,true,.done (.ret (.str (nm ([47]++ao [47] (aF o.ps))) (iW R))),[]++[],rights (cH R))∧dw R=o.Z+0:=⟨_,rfl,by kernel_rfl,by kernel_rfl⟩
theorem oV P c n k x t o Z V:∃R,bh P none 600 518 (hc (hc (hc (hc (hc Nr 56 0x1120010001010) 112 Mv) 504 0x10f0d0d0c0d0d000d000d0d0d0c0d0d000d000d0d0d0c0d0d000d000d0d0d0c0d0d000d000d0d000c000c0c0c010004010004040100040100040100040100) 1040 hb2) 32 0x1000000) (.call (.ref 126) ⟨[.str (nm (c::x)) t],[]⟩) [] Z V [] (aU (nm (c::x)) (Int.ofNat (x.length+1)) (pL 64 none (some 1) (c::x) (iK (nm (dX none (some 1) (c::x))) (nm [47]) false (pL 128 (some 1) (some 2) (c::x) (iK (nm (dX (some 1) (some 2) (c::x))) (nm [47]) false (pL 256 (some 2) (some 3) (c::x) (bN (nm (dX (some 2) (some 3) (c::x))) (nm [47]) false (pL 512 none (some 2) (c::x) (pL 1024 (some 2) none (c::x) (f9 (dX (some 2) none (c::x)) 47 (ju 229377 (sY P Z (Z+15) (Z+16) (Z+17) n (strValues (mO (nm (dX (some 2) none (c::x))) (nm [47]) (vN (some 2) none (c::x) t (bA none (some 2) (c::x) ((bA (some 2) (some 3) (c::x) ((bA (some 1) (some 2) (c::x) ((bA none (some 1) (c::x) (V+23))+2))+2))+1)+1)) ((bA (some 2) none (c::x) (bA none (some 2) (c::x) ((bA (some 2) (some 3) (c::x) ((bA (some 1) (some 2) (c::x) ((bA none (some 1) (c::x) (V+23))+2))+2))+1)+1))+3))) (dX (some 2) none (c::x)) (dX none (some 2) (c::x)) o) (Z+18) ((bA (some 2) none (c::x) (bA none (some 2) (c::x) ((bA (some 2) (some 3) (c::x) ((bA (some 1) (some 2) (c::x) ((bA none (some 1) (c::x) (V+23))+2))+2))+1)+1))+3+lE (nm (dX (some 2) none (c::x))) (nm [47])+2) (dF 65536 [((Z+16),aa o.ep (tvs o.ps))] [47] (Z+16) o.ps (dB (dX none (some 2) (c::x)) (ao [47] (aF o.ps)) (aU (nm ((dX none (some 2) (c::x))++ao [47] (aF o.ps))) (Int.ofNat (k+1)) (.nil)))))))))))))))=R∧vw R 0=(true,true,.done (.ret (.str (nm ((dX none (some 2) (c::x))++ao [47] (aF o.ps))) (iW R))),[]++[],rights (cH R))∧dw R=o.Z+0:=⟨_,rfl,by kernel_rfl,by kernel_rfl⟩
section
open Builtin Builtin.Str Builtin.Int
noncomputable def fX (l:List Nat):List Nat×List Nat:=
 if dX none (some 1) l≠[47] then([],l)
 else if dX (some 1) (some 2) l≠[47]∨dX (some 2) (some 3) l=[47] then([47],dX (some 1) none l)
 else(dX none (some 2) l,dX (some 2) none l)
noncomputable def qM (z:List Nat):List Nat:=match z with
 |[]=>[46]
 |c::r=>c::r
noncomputable def Do (p:List Nat×List Nat):List Nat:=qM (p.1++ao [47] ((aQ 47 p.2).foldl (bf p.1) []))
noncomputable def eV (l:List Nat):List Nat:=match l with
 |[]=>[46]
 |c::r=>Do (fX (c::r))
noncomputable def Ca (L:List (Str×Nat)):List (List Nat×Nat):=L.map fun p=>(p.1.cps.toList,p.2)
theorem Ad (L:List (Str×Nat)):tvs (Ca L)=strValues L:=by
 unfold tvs Ca strValues
 rw[List.map_map]
 rfl
theorem DR (l:List Nat)(c t V:Nat):aF (Ca (mO (nm l) (nm [c]) t V))=aQ c l:=by
 have h:=QF l c t V
 have e:aF (Ca (mO (nm l) (nm [c]) t V))=((mO (nm l) (nm [c]) t V).map (·.1)).map fun x=>x.cps.toList:=by
  unfold aF Ca
  rw[List.map_map,List.map_map]
  rfl
 rw[e,h,List.map_map]
 conv=>rhs;rw[←List.map_id (aQ c l)]
 rfl
theorem mW (c:Nat):∀l,(aQ c l).length≤l.length+1∧∀p∈aQ c l,p.length≤l.length
 |[]=>⟨Nat.le_refl _,fun p h=>by rw[show aQ c []=[[]] from rfl,List.mem_singleton] at h;rw[h];exact Nat.le_refl _⟩
 |x::l=>by
  obtain⟨h1,h2⟩:=mW c l
  unfold aQ
  split
  ·refine⟨by rw[List.length_cons,List.length_cons];lia,fun p h=>?_⟩
   rcases List.mem_cons.mp h with e|e
   ·rw[e];exact Nat.zero_le _
   ·have:=h2 p e
    rw[List.length_cons];lia
  ·split
   ·rename_i a b hs
    rw[hs] at h1 h2
    refine⟨by rw[List.length_cons] at h1 ⊢;rw[List.length_cons];lia,fun p h=>?_⟩
    rcases List.mem_cons.mp h with e|e
    ·rw[e]
     have:=h2 a (.head _)
     rw[List.length_cons,List.length_cons];lia
    ·have:=h2 p (.tail _ e)
     rw[List.length_cons];lia
   ·refine⟨by show 1≤_;lia,fun p h=>?_⟩
    rw[List.mem_singleton] at h
    rw[h]
    show 1≤l.length+1
    lia
theorem RJ (lo hi:Option Nat)(l:List Nat):(dX lo hi l).length≤l.length:=by
 unfold dX
 have:=List.length_take_le (vZ hi l.length-uQ lo l.length) (l.drop (uQ lo l.length))
 have h2:vZ hi l.length≤l.length:=Nat.min_le_right _ _
 lia
theorem xu (root:List Nat):∀(cs st:List (List Nat)) (B:Nat),(∀x∈cs,x.length≤B)→cR [47] (cs.foldl (bf root) st)≤cR [47] st+cR [47] cs
 |[],st,_,_=>Nat.le_add_right _ _
 |x::cs,st,B,h=>by
  have ih:=xu root cs (bf root st x) B fun y hy=>h y (.tail _ hy)
  rw[List.foldl_cons]
  have h1:cR [47] (bf root st x)≤cR [47] st+(x.length+1):=by
   have hsn:∀(a:List (List Nat)),cR [47] (a++[x])=cR [47] a+(x.length+1):=fun a=>by
    unfold cR
    rw[List.map_append,List.sum_append]
    rfl
   have hdl:∀(a:List (List Nat)),cR [47] a.dropLast≤cR [47] a:=fun a=>by
    rcases List.eq_nil_or_concat a with e|⟨a',z,e⟩
    ·rw[e];exact Nat.le_refl _
    ·rw[e,List.concat_eq_append,List.dropLast_concat]
     unfold cR
     rw[List.map_append,List.sum_append]
     lia
   unfold bf
   split
   ·lia
   ·split
    ·rw[hsn];exact Nat.le_refl _
    ·split
     ·rw[hsn];exact Nat.le_refl _
     ·have:=hdl st;lia
  have h2:cR [47] (x::cs)=(x.length+1)+cR [47] cs:=rfl
  lia
theorem yh (c:Nat):∀l,cR [47] (aQ c l)=l.length+1
 |[]=>rfl
 |x::l=>by
  have ih:=yh c l
  unfold aQ
  split
  ·show(0+1)+cR [47] (aQ c l)=_
   rw[ih,List.length_cons];lia
  ·split
   ·rename_i a b hs
    rw[hs] at ih
    have e1:cR [47] (a::b)=(a.length+1)+cR [47] b:=rfl
    show((x::a).length+1)+cR [47] b=_
    rw[List.length_cons,List.length_cons]
    lia
   ·rename_i hs
    exact absurd hs (jy c l)
section
variable {w:World} {J:Array GenState} {dr:Drawn} {os:Osw}
theorem dW {Fn:bw}(hkt:Sub (KF w.params) Fn)(fr ca na it:Nat)(rest root:List Nat)(T tk:Nat)(hrest:rest.length≤30000)(hroot:root=[]∨∃rr,root=47::rr)(hrl:root.length≤30000)(Z V:Nat):
  ∃(n:Nat) (o:NpO),Z≤o.Z∧aF o.ps=(aQ 47 rest).foldl (bf root) []∧∀g,bu aH w J dr os Fn (sY w.params fr ca na it n (strValues (mO (nm rest) (nm [47]) T tk)) rest root o g) Z V:=by
 refine Classical.byContradiction fun hNN=>?_
 have hsz:=mW 47 rest
 have hv:=Ad (mO (nm rest) (nm [47]) T tk)
 have hf:=DR rest 47 T tk
 generalize hpc:Ca (mO (nm rest) (nm [47]) T tk)=pc at hv hf
 have hlen:pc.length≤40000:=by rw[←cJ,hf];lia
 obtain⟨ps,ep,x,Z',V',h1,h2,_,h3⟩:=G9 (w:=w) (J:=J) (dr:=dr) (os:=os) (Fn:=aj Fn (bG [(ca,aa 0 (tvs pc))])) (hkt.trans (Sub.orL _ _)) fr na ca it 0 pc (.inr (.head _))
  (by intro e;rw[e] at hf;exact jy 47 rest hf.symm) hlen (fun p hp=>by
   have:=hsz.2 p.1 (by rw[←hf];exact List.mem_map.mpr ⟨p,hp,rfl⟩)
   lia) rest root hroot (by lia) Z V
 refine hNN ⟨pc.length,⟨fun k t=>(h3 k t).choose,fun k t=>(h3 k t).choose_spec.choose,ps,ep,x,Z',V'⟩,h1,by rw[←hf];exact h2,fun g=>?_⟩
 have h4:=(h3 (aP (au g 0)) (aN (au g 0))).choose_spec.choose_spec
 rw[←hv]
 have hA:bu aH w J dr os (aj Fn (bG [(ca,aa 0 (tvs pc))])) ⟨sI w.params fr it,900,[(fr,qx (aP (au g 0)) (aN (au g 0)) rest root ca na none),(na,aa 0 []),(it,cz ca 0)],.ok .next,
   [qx (h3 (aP (au g 0)) (aN (au g 0))).choose (h3 (aP (au g 0)) (aN (au g 0))).choose_spec.choose rest root ca na (some x),aa ep (tvs ps),jo pc.length],[],cQ,[],Z',V'⟩ Z V:=by
  refine⟨fun _ _ q=>q.elim,fun _ q=>(nomatch q),fun Fz hF=>?_⟩
  exact(h4 Fz hF).post fun s r=>r.anti fun b o q=>q.elim id fun q=>q.elim
 have hB:=Bg hA
 exact ye hB (List.Perm.swap _ _ _) (List.Perm.swap _ _ _)
theorem cG {Fn:bw}(hkt:Sub (KF w.params) Fn)(l:List Nat)(hl:l.length≤20000)(t Z V:Nat):
  ∃u Z' V',Z≤Z'∧bu aH w J dr os Fn (qP 126 l t (eV l) u Z' V') Z V:=by
 have hsl:∀l:List Nat,l.length≤100000→(nm l).length≤sizeLine:=fun l h=>by rw[mj,big];lia
 rcases l with _|⟨c,x⟩
 ·refine cj (qQ w.params t Z V) fun R hR H hs=>?_
  exact⟨iW R,_,bk R,Nat.le_add_right _ _,gZ hR H hs rfl hkt (fun _ q=>(nomatch q)) fun Fz _=>bY rfl (hsl [] (Nat.zero_le _)) trivial⟩
 ·show ∃u Z' V',Z≤Z'∧bu aH w J dr os Fn (qP 126 (c::x) t (Do (fX (c::x))) u Z' V') Z V
  have hb:∀{Fz:bw} {kk:Ant},aA aH w J dr os Fz kk→aA aH w J dr os Fz (aU (nm (c::x)) (Int.ofNat (x.length+1)) (pL 64 none (some 1) (c::x) kk)):=fun h=>bY rfl (hsl _ (by lia)) (Oi (by lia) h)
  have hss:∀{Fz:bw} {kk:Ant} {m:Nat} {lo hi:Option Nat},aA aH w J dr os Fz kk→aA aH w J dr os Fz (pL m lo hi (c::x) kk):=fun h=>Oi (by lia) h
  have hle:=fun lo hi=>RJ lo hi (c::x)
  have tail:∀(root rest:List Nat) (o:NpO) (m na:Nat) {Fz:bw} {n:Int},root.length≤20000→rest.length≤20000→aF o.ps=(aQ 47 rest).foldl (bf root) []→((root++ao [47] (aF o.ps)).length:Int)=n→
    aA aH w J dr os Fz (dF m [(na,aa o.ep (tvs o.ps))] [47] na o.ps (dB root (ao [47] (aF o.ps)) (aU (nm (root++ao [47] (aF o.ps))) n .nil))):=fun root rest o m na Fz n hr1 hr2 ho hn=>by
   have h1:cR [47] (aF o.ps)≤20001:=by
    rw[ho]
    have:=xu root (aQ 47 rest) [] rest.length (mW 47 rest).2
    rw[yh] at this
    have e:cR [47] []=0:=rfl
    lia
   have h2:=fj [47] (aF o.ps)
   exact lL (.inr (.head _)) (by lia) (jZ (by lia) (bY hn (hsl _ (by rw[List.length_append];lia)) trivial))
  by_cases e1:dX none (some 1) (c::x)≠[47]
  ·have er:fX (c::x)=([],c::x):=by unfold fX;rw[if_pos e1]
   rw[er]
   refine c7 (dW (w:=w) (J:=J) (dr:=dr) (os:=os) hkt Z (Z+11) (Z+12) (Z+13) (c::x) [] t (bA none (some 1) (c::x) (V+23)+3) (by lia) (.inl rfl) (Nat.zero_le _) (Z+14) (bA none (some 1) (c::x) (V+23)+3+lE (nm (c::x)) (nm [47])+2)) fun n o h1 h2 h3=>?_
   have ant:∀{kk:Ant} {Fz:bw},Sub Fn Fz→aA aH w J dr os (aj Fz cQ) kk→aA aH w J dr os Fz (iK (nm (dX none (some 1) (c::x))) (nm [47]) true (f9 (c::x) 47 (ju 14337 (sY w.params Z (Z+11) (Z+12) (Z+13) n (strValues (mO (nm (c::x)) (nm [47]) t (bA none (some 1) (c::x) (V+23)+3))) (c::x) [] o) (Z+14) (bA none (some 1) (c::x) (V+23)+3+lE (nm (c::x)) (nm [47])+2) kk))):=
    fun hz h=>pZ (uh e1) (o4 (by lia) fun g=>⟨(h3 g).mono' hz,h⟩)
   show ∃u Z' V',Z≤Z'∧bu aH w J dr os Fn (qP 126 (c::x) t (qM ([]++ao [47] ((aQ 47 (c::x)).foldl (bf []) []))) u Z' V') Z V
   rw[←h2]
   cases hz:([]++ao [47] (aF o.ps):List Nat) with
   |nil=>
    refine cj (oM w.params c n 0 x t o Z V) fun R hR H hs=>?_
    exact⟨iW R,o.Z+0,bk R,by lia,gZ hR H hs rfl hkt (fun _ q=>(nomatch q)) fun Fz hF=>hb (ant hF (tail [] (c::x) o _ _ (Nat.zero_le _) hl h2 (by rw[hz];rfl)))⟩
   |cons a b=>
    refine cj (o8 w.params c n b.length x t o Z V) fun R hR H hs=>?_
    have hans:=gZ hR H hs rfl hkt (fun _ q=>(nomatch q)) fun Fz hF=>hb (ant hF (tail [] (c::x) o _ _ (Nat.zero_le _) hl h2 (by rw[hz];rfl)))
    rw[hz] at hans
    exact⟨iW R,o.Z+0,bk R,by lia,hans⟩
  ·have e1':dX none (some 1) (c::x)=[47]:=Decidable.byContradiction e1
   have a1:∀{kk:Ant} {Fz:bw},aA aH w J dr os Fz kk→aA aH w J dr os Fz (iK (nm (dX none (some 1) (c::x))) (nm [47]) false (pL 128 (some 1) (some 2) (c::x) kk)):=fun h=>pZ (by rw[e1'];rfl) (hss h)
   by_cases e2:dX (some 1) (some 2) (c::x)≠[47]
   ·have er:fX (c::x)=([47],dX (some 1) none (c::x)):=by unfold fX;rw[if_neg e1,if_pos (.inl e2)]
    rw[er]
    refine c7 (dW (w:=w) (J:=J) (dr:=dr) (os:=os) hkt Z (Z+13) (Z+14) (Z+15) (dX (some 1) none (c::x)) [47] (vN (some 1) none (c::x) t (bA (some 1) (some 2) (c::x) (bA none (some 1) (c::x) (V+23)+2)+1)) (bA (some 1) none (c::x) (bA (some 1) (some 2) (c::x) (bA none (some 1) (c::x) (V+23)+2)+1)+3) (by have:=hle (some 1) none;lia) (.inr ⟨[],rfl⟩) (by decide) (Z+16) (bA (some 1) none (c::x) (bA (some 1) (some 2) (c::x) (bA none (some 1) (c::x) (V+23)+2)+1)+3+lE (nm (dX (some 1) none (c::x))) (nm [47])+2)) fun n o h1 h2 h3=>?_
    show ∃u Z' V',Z≤Z'∧bu aH w J dr os Fn (qP 126 (c::x) t (qM ([47]++ao [47] ((aQ 47 (dX (some 1) none (c::x))).foldl (bf [47]) []))) u Z' V') Z V
    rw[←h2]
    refine cj (mF w.params c n (ao [47] (aF o.ps)).length x t o Z V) fun R hR H hs=>?_
    refine⟨iW R,o.Z+0,bk R,by lia,gZ hR H hs rfl hkt (fun _ q=>(nomatch q)) fun Fz hF=>hb (a1 (pZ (uh e2) (hss (o4 (by have:=hle (some 1) none;lia) fun g=>⟨(h3 g).mono' hF,tail [47] (dX (some 1) none (c::x)) o _ _ (by decide) (by have:=hle (some 1) none;lia) h2 ?_⟩))))⟩
    rfl
   ·have e2':dX (some 1) (some 2) (c::x)=[47]:=Decidable.byContradiction e2
    have a2:∀{kk:Ant} {Fz:bw},aA aH w J dr os Fz kk→aA aH w J dr os Fz (iK (nm (dX (some 1) (some 2) (c::x))) (nm [47]) false (pL 256 (some 2) (some 3) (c::x) kk)):=fun h=>pZ (by rw[e2'];rfl) (hss h)
    by_cases e3:dX (some 2) (some 3) (c::x)=[47]
    ·have er:fX (c::x)=([47],dX (some 1) none (c::x)):=by unfold fX;rw[if_neg e1,if_pos (.inr e3)]
     rw[er]
     refine c7 (dW (w:=w) (J:=J) (dr:=dr) (os:=os) hkt Z (Z+14) (Z+15) (Z+16) (dX (some 1) none (c::x)) [47] (vN (some 1) none (c::x) t (bA (some 2) (some 3) (c::x) (bA (some 1) (some 2) (c::x) (bA none (some 1) (c::x) (V+23)+2)+2)+1)) (bA (some 1) none (c::x) (bA (some 2) (some 3) (c::x) (bA (some 1) (some 2) (c::x) (bA none (some 1) (c::x) (V+23)+2)+2)+1)+3) (by have:=hle (some 1) none;lia) (.inr ⟨[],rfl⟩) (by decide) (Z+17) (bA (some 1) none (c::x) (bA (some 2) (some 3) (c::x) (bA (some 1) (some 2) (c::x) (bA none (some 1) (c::x) (V+23)+2)+2)+1)+3+lE (nm (dX (some 1) none (c::x))) (nm [47])+2)) fun n o h1 h2 h3=>?_
     show ∃u Z' V',Z≤Z'∧bu aH w J dr os Fn (qP 126 (c::x) t (qM ([47]++ao [47] ((aQ 47 (dX (some 1) none (c::x))).foldl (bf [47]) []))) u Z' V') Z V
     rw[←h2]
     refine cj (mG w.params c n (ao [47] (aF o.ps)).length x t o Z V) fun R hR H hs=>?_
     refine⟨iW R,o.Z+0,bk R,by lia,gZ hR H hs rfl hkt (fun _ q=>(nomatch q)) fun Fz hF=>hb (a1 (a2 (gm (by rw[e3];rfl) (hss (o4 (by have:=hle (some 1) none;lia) fun g=>⟨(h3 g).mono' hF,tail [47] (dX (some 1) none (c::x)) o _ _ (by decide) (by have:=hle (some 1) none;lia) h2 ?_⟩)))))⟩
     rfl
    ·have er:fX (c::x)=(dX none (some 2) (c::x),dX (some 2) none (c::x)):=by unfold fX;rw[if_neg e1,if_neg (fun q=>q.elim e2 e3)]
     have hrt:∃rr,dX none (some 2) (c::x)=47::rr:=by
      have:dX none (some 1) (c::x)=[c]:=by
       unfold dX uQ vZ
       simp
      rw[this] at e1'
      injection e1' with e _
      subst e
      unfold dX uQ vZ
      simp only[Option.getD_none,Nat.zero_min,List.drop_zero,Nat.sub_zero,Option.getD_some,List.length_cons]
      have:min 2 (x.length+1)=min 1 x.length+1:=by lia
      rw[this,List.take_succ_cons]
      exact⟨_,rfl⟩
     rw[er]
     have hr1:=hle none (some 2)
     have hr2:=hle (some 2) none
     refine c7 (dW (w:=w) (J:=J) (dr:=dr) (os:=os) hkt Z (Z+15) (Z+16) (Z+17) (dX (some 2) none (c::x)) (dX none (some 2) (c::x)) (vN (some 2) none (c::x) t (bA none (some 2) (c::x) (bA (some 2) (some 3) (c::x) (bA (some 1) (some 2) (c::x) (bA none (some 1) (c::x) (V+23)+2)+2)+1)+1)) (bA (some 2) none (c::x) (bA none (some 2) (c::x) (bA (some 2) (some 3) (c::x) (bA (some 1) (some 2) (c::x) (bA none (some 1) (c::x) (V+23)+2)+2)+1)+1)+3) (by lia) (.inr hrt) (by lia) (Z+18) (bA (some 2) none (c::x) (bA none (some 2) (c::x) (bA (some 2) (some 3) (c::x) (bA (some 1) (some 2) (c::x) (bA none (some 1) (c::x) (V+23)+2)+2)+1)+1)+3+lE (nm (dX (some 2) none (c::x))) (nm [47])+2)) fun n o h1 h2 h3=>?_
     show ∃u Z' V',Z≤Z'∧bu aH w J dr os Fn (qP 126 (c::x) t (qM (dX none (some 2) (c::x)++ao [47] ((aQ 47 (dX (some 2) none (c::x))).foldl (bf (dX none (some 2) (c::x))) []))) u Z' V') Z V
     rw[←h2]
     obtain⟨rr,hrr⟩:=hrt
     have hne:qM (dX none (some 2) (c::x)++ao [47] (aF o.ps))=dX none (some 2) (c::x)++ao [47] (aF o.ps):=by rw[hrr];rfl
     rw[hne]
     refine cj (oV w.params c n (rr++ao [47] (aF o.ps)).length x t o Z V) fun R hR H hs=>?_
     refine⟨iW R,o.Z+0,bk R,by lia,gZ hR H hs rfl hkt (fun _ q=>(nomatch q)) fun Fz hF=>hb (a1 (a2 (gm (ph e3) (hss (hss (o4 (by lia) fun g=>⟨(h3 g).mono' hF,tail (dX none (some 2) (c::x)) (dX (some 2) none (c::x)) o _ _ (by lia) (by lia) h2 ?_⟩))))))⟩
     rw[hrr]
     rfl
end
end
section
open Builtin Builtin.Str Builtin.Int
noncomputable def placeOf (l:List Nat):List Nat:=
 qM (rootOf l++ao [47] ((if rootOf l=[] then List.replicate (cM ((aQ 47 l).map fun p=>[p]) false).1 [46,46] else [])++(cM ((aQ 47 l).map fun p=>[p]) false).2.map fun k=>(aQ 47 l).getD k []))
theorem tO {items:List (List (List Nat))}{mk:Bool}:∀(j:Nat) (s:Nat×List Nat) (k:Nat),k∈(mz items mk j s).2→k∈s.2∨(k<j∧(isName items mk k=false→items.getD k []≠[[]]))
 |0,s,k,h=>.inl h
 |j+1,s,k,h=>by
  rcases tO j (cO items mk j s) k h with h|⟨h1,h2⟩
  ·unfold cO at h
   split at h
   ·exact .inl h
   ·split at h
    ·exact .inl h
    ·rename_i hn
     split at h
     ·exact .inl h
     ·rcases List.mem_cons.mp h with e|e
      ·subst e
       exact .inr ⟨Nat.lt_succ_self _,fun q e=>hn ⟨q,.inl e⟩⟩
      ·exact .inl e
  ·exact .inr ⟨Nat.lt_succ_of_lt h1,h2⟩
theorem rz {items:List (List (List Nat))}{mk:Bool}:∀(j:Nat) (s:Nat×List Nat),(mz items mk j s).1≤s.1+j
 |0,s=>Nat.le_refl _
 |j+1,s=>by
  have ih:=rz (items:=items) (mk:=mk) j (cO items mk j s)
  have h:(cO items mk j s).1≤s.1+1:=by
   unfold cO
   split
   ·exact Nat.le_refl _
   ·split
    ·lia
    ·split
     ·show s.1-1≤_;lia
     ·show s.1≤_;lia
  show(mz items mk j (cO items mk j s)).1≤_
  lia
theorem il (sep:List Nat)(B:Nat):∀T:List (List Nat),(∀x∈T,x.length≤B)→cR sep T≤T.length*(B+sep.length)
 |[],_=>Nat.zero_le _
 |x::r,h=>by
  have ih:=il sep B r fun y hy=>h y (.tail _ hy)
  have h1:=h x (.head _)
  have e:cR sep (x::r)=(x.length+sep.length)+cR sep r:=rfl
  rw[e,List.length_cons,Nat.add_mul]
  lia
theorem yj {sep:List Nat}:∀{T:List (List Nat)} {x:List Nat},x∈T→x≠[]→ao sep T≠[]
 |[y],x,h,hx=>by
  rw[List.mem_singleton] at h
  subst h
  exact hx
 |y::z::r,x,h,hx=>by
  show y++sep++ao sep (z::r)≠[]
  rcases List.mem_cons.mp h with e|e
  ·subst e
   intro q
   rw[List.append_assoc] at q
   exact hx (List.append_eq_nil_iff.mp q).1
  ·intro q
   exact yj e hx (List.append_eq_nil_iff.mp q).2
theorem Fd (a b:List (List Nat×Nat)):tvs (a++b)=tvs a++tvs b:=List.map_append ..
theorem rU (a b:List (List Nat×Nat)):aF (a++b)=aF a++aF b:=List.map_append ..
theorem FT (n:Nat)(p:List Nat×Nat):tvs (List.replicate n p)=List.replicate n (.str (nm p.1) p.2):=List.map_replicate ..
theorem rW (n:Nat)(p:List Nat×Nat):aF (List.replicate n p)=List.replicate n p.1:=List.map_replicate ..
theorem zj (l:List Nat):rootOf l=[]∨∃rr,rootOf l=47::rr:=by
 unfold rootOf
 generalize (l.takeWhile (·==47)).length=k
 rcases k with _|_|_|k
 ·exact .inl rfl
 ·exact .inr ⟨[],rfl⟩
 ·exact .inr ⟨[47],rfl⟩
 ·exact .inr ⟨[],rfl⟩
theorem xY (l:List Nat):(rootOf l).length≤2:=by
 unfold rootOf
 generalize (l.takeWhile (·==47)).length=k
 rcases k with _|_|_|k<;>simp[Bc]
section
variable {w:World} {J:Array GenState} {dr:Drawn} {os:Osw}
theorem eG {Fn:bw}(hkt:Sub (KF w.params) Fn)(l:List Nat)(hl:l.length≤200)(t Z V:Nat):
  ∃u Z' V',Z≤Z'∧bu aH w J dr os Fn (qP 850 l t (placeOf l) u Z' V') Z V:=by
 have hsl:∀l:List Nat,l.length≤100000→(nm l).length≤sizeLine:=fun l h=>by rw[mj,big];lia
 have hsp:=mW 47 l
 have hv:=Ad (mO (nm l) (nm [47]) t (V+2))
 have hf:=DR l 47 t (V+2)
 generalize hpc:Ca (mO (nm l) (nm [47]) t (V+2))=pc at hv hf
 have hpcl:pc.length=(aQ 47 l).length:=by rw[←cJ,hf]
 have hpne:pc≠[]:=by intro e;rw[e] at hf;exact jy 47 l hf.symm
 refine je (kZ (w:=w) (J:=J) (dr:=dr) (os:=os) (Fn:=aj Fn (bG [(Z+2,aa 0 (tvs pc))])) (hkt.trans (Sub.orL _ _)) Z (Z+5) (Z+3) (Z+4) (Z+2) 0 (tvs pc) (.inr (.head _)) (by rw[aG];lia) (dD pc) (Z+6) (V+2+lE (nm l) (nm [47]))) fun cur1 o1 hc1 ho1 hX1 hall1 hans1=>?_
 rcases hc1 with⟨e,_⟩|⟨_,x1,rfl⟩
 ·exact absurd (List.map_eq_nil_iff.mp e) hpne
 have hFr:Sub (aj (aj Fn (bG [(Z+2,aa 0 (tvs pc))])) o1.X) (aj (aj (aj Fn o1.X) (bG [(Z+2,aa 0 (tvs pc))])) (bG [(Z+4,aa o1.ep o1.vs)])):=fun b o q=>q.elim (fun q=>q.elim (fun q=>.inl (.inl (.inl q))) fun q=>.inl (.inr q)) fun q=>.inl (.inl (.inr q))
 have mp:∀{F G:bw} {ds:List (List Nat)} {vs:List Value},Sub F G→All2 (fun dd v=>j0 F v [dd]) ds vs→All2 (j0 G) vs (ds.map fun p=>[p]):=fun hs h=>by
  induction h with
  |nil=>exact .nil
  |cons h _ ih=>exact .cons (h.mono hs) ih
 have hitems:=mp hFr hall1
 rw[hf] at hitems
 have hilen:((aQ 47 l).map fun p=>[p]).length≤201:=by rw[List.length_map];lia
 obtain⟨ta,la,epl,tk,dd,lv,Xl,szl,tokl,hszl,hXl,hleft,hlvl,hla,hansl⟩:=oW (w:=w) (J:=J) (dr:=dr) (os:=os) (Fn:=aj (aj (aj Fn o1.X) (bG [(Z+2,aa 0 (tvs pc))])) (bG [(Z+4,aa o1.ep o1.vs)])) (hkt.trans fun b o q=>.inl (.inl (.inl q))) (Z+4) o1.ep o1.vs (.inr (.head _)) ((aQ 47 l).map fun p=>[p]) hitems
  (by intro e;exact jy 47 l (List.map_eq_nil_iff.mp e)) (by lia) (fun x hx=>by
   refine aL (List.mem_map.mp hx) fun p _ er1=>?_;subst er1
   exact⟨by simp,by show 1≤_;decide⟩) false o1.Z o1.V
 refine du (ir (w:=w) (J:=J) (dr:=dr) (os:=os) hkt l (by lia) t (szl+3) (tokl+2)) fun ru szr tokr hszr hansr=>?_
 have hks:∀k∈lv.map (·.1),k<(aQ 47 l).length∧(aQ 47 l).getD k []≠[]:=fun k hk=>by
  have hk2:k∈(cM ((aQ 47 l).map fun p=>[p]) false).2:=by rw[hleft];exact hk
  rcases tO _ _ _ hk2 with h|⟨h1,h2⟩
  ·cases h
  ·rw[List.length_map] at h1
   refine⟨h1,fun e=>?_⟩
   have eg:((aQ 47 l).map fun p=>[p]).getD k []=[(aQ 47 l).getD k []]:=by
    rw[List.getD_eq_getElem?_getD,List.getElem?_map,List.getElem?_eq_getElem h1,List.getD_eq_getElem?_getD,List.getElem?_eq_getElem h1]
    rfl
   refine h2 ?_ ?_
   ·unfold isName
    rw[eg]
    rfl
   ·rw[eg,e]
 have hdd:dd≤201:=by
  have:=rz (items:=(aQ 47 l).map fun p=>[p]) (mk:=false) ((aQ 47 l).map fun p=>[p]).length (0,[])
  have e:(mz ((aQ 47 l).map fun p=>[p]) false ((aQ 47 l).map fun p=>[p]).length (0,[])).1=dd:=congrArg Prod.fst hleft
  rw[e] at this
  simp only at this
  lia
 have hin2:All2 (fun x dd=>∃(k:Nat) (t u:Nat),x=.int (k:Int) t∧(tvs pc)[k]?=some (.str (nm dd) u)∧k≤100000) (dq lv) (lv.map fun p=>(aQ 47 l).getD p.1 []):=by
  have:∀(L:List (Nat×Nat)),(∀k∈L.map (·.1),k<(aQ 47 l).length)→All2 (fun x dd=>∃(k:Nat) (t u:Nat),x=.int (k:Int) t∧(tvs pc)[k]?=some (.str (nm dd) u)∧k≤100000) (dq L) (L.map fun p=>(aQ 47 l).getD p.1 []):=fun L=>by
   induction L with
   |nil=>exact fun _=>.nil
   |cons p L ih=>
    intro h
    refine .cons ?_ (ih fun k hk=>h k (.tail _ hk))
    have h1:p.1<(aQ 47 l).length:=h p.1 (.head _)
    have h2:p.1<pc.length:=by lia
    refine⟨p.1,p.2,pc[p.1].2,rfl,?_,by lia⟩
    rw[uA,List.getElem?_eq_getElem h2]
    have:(aQ 47 l).getD p.1 []=pc[p.1].1:=by
     rw[←hf,List.getD_eq_getElem?_getD]
     unfold aF
     rw[List.getElem?_map,List.getElem?_eq_getElem h2]
     rfl
    show some (Value.str (nm pc[p.1].1) pc[p.1].2)=some (.str (nm ((aQ 47 l).getD p.1 [])) pc[p.1].2)
    rw[this]
  exact this lv fun k hk=>(hks k hk).1
 have comp2:∀(it acc d Z' V':Nat),∃(cur:Option Value) (o:CompOut) (p2:List (List Nat×Nat)),((lv=[]∧cur=none)∨(lv≠[]∧∃v,cur=some v))∧Z'≤o.Z∧o.vs=tvs p2∧aF p2=lv.map (fun p=>(aQ 47 l).getD p.1 [])∧∀G:bw,Sub Fn G→Sub Xl G→bu aH w J dr os G (bF (Z+1,bU (.ref (Z+2))) (bF (Z+2,aa 0 (tvs pc)) (cC 900 (dK (sy w.params) (tH w.params Z (Z+1) d) it acc) vK d it la acc lv.length cur o))) Z' V':=fun it acc d Z' V'=>by
  refine je (lA (w:=w) (J:=J) (dr:=dr) (os:=os) (Fn:=aj (aj (aj Fn Xl) (bG [(Z+1,bU (.ref (Z+2)))])) (bG [(Z+2,aa 0 (tvs pc))])) (hkt.trans fun b o q=>.inl (.inl (.inl q))) Z d it acc la epl (Z+1) (dq lv) (.inl (.inl (.inr hla))) (by rw[fB];lia) (Z+2) 0 (tvs pc) (.inl (.inr (.head _))) (.inr (.head _)) hin2 Z' V') fun cur o hc ho _ hall hans=>?_
  refine aL (d7 (f:=id) hall) fun p2 hp2 hp3=>?_
  refine⟨cur,o,p2,?_,ho,hp2,by rw[hp3,List.map_id],fun G hG hX=>?_⟩
  ·rcases hc with⟨e1,e2⟩|⟨e1,e2⟩
   ·exact .inl ⟨List.map_eq_nil_iff.mp e1,e2⟩
   ·exact .inr ⟨fun e=>e1 (by rw[e];rfl),e2⟩
  ·rw[fB] at hans
   refine fU rfl (fU rfl (hans.mono' ?_))
   exact Sub.mono (Sub.mono (hG.both hX))
 have hjoin:∀(k:Nat) (u:Nat) (p2:List (List Nat×Nat)),k≤201→aF p2=lv.map (fun p=>(aQ 47 l).getD p.1 [])→cR [47] (aF (List.replicate k ([46,46],u)++p2))≤90000:=fun k u p2 hk h=>by
  have hB:∀x∈aF (List.replicate k ([46,46],u)++p2),x.length≤200:=fun x hx=>by
   rw[rU,rW] at hx
   rcases List.mem_append.mp hx with q|q
   ·rw[List.eq_of_mem_replicate q];show 2≤200;decide
   ·rw[h] at q
    refine aL (List.mem_map.mp q) fun p hp er2=>?_;subst er2
    have h1:=(hks p.1 (List.mem_map.mpr ⟨p,hp,rfl⟩)).1
    have h2:(aQ 47 l).getD p.1 []∈aQ 47 l:=by
     rw[List.getD_eq_getElem?_getD,List.getElem?_eq_getElem h1]
     exact List.getElem_mem h1
    have:=hsp.2 _ h2
    lia
  have h3:=il [47] 200 _ hB
  have h4:(aF (List.replicate k ([46,46],u)++p2)).length≤402:=by
   rw[rU,rW,List.length_append,List.length_replicate,h,List.length_map]
   rw[List.length_map] at hlvl
   lia
  have h5:=Nat.mul_le_mul_right (200+[47].length) h4
  have e:402*(200+[47].length)=80802:=rfl
  lia
 have hres:∀(root:List Nat) (ks:List Nat),rootOf l=root→lv.map (·.1)=ks→placeOf l=qM (root++ao [47] ((if root=[] then List.replicate dd [46,46] else [])++ks.map fun k=>(aQ 47 l).getD k [])):=fun root ks h1 h2=>by
  unfold placeOf
  rw[hleft,h1,h2]
 have emap:(lv.map (·.1)).map (fun k=>(aQ 47 l).getD k [])=lv.map fun p=>(aQ 47 l).getD p.1 []:=by rw[List.map_map];rfl
 have ant0:∀{Fz:bw} {kk:Ant} (root:List Nat) (bq:Bool),Sub Fn Fz→rootOf l=root→((nm root).cps.toList==(nm []).cps.toList)=bq→aA aH w J dr os (aj (aj (aj Fz o1.X) Xl) cQ) kk→
   aA aH w J dr os Fz (f9 l 47 (bc 60 (bF (Z+2,aa 0 (strValues (mO (nm l) (nm [47]) t (V+2)))) (cC 900 (dK (ux w.params) (vp w.params Z (Z+5)) (Z+3) (Z+4)) bz (Z+5) (Z+3) (Z+2) (Z+4) (tvs pc).length (some x1) o1)) (Z+6) (V+2+lE (nm l) (nm [47]))
    (bc 20 (bF (Z+2,aa 0 (strValues (mO (nm l) (nm [47]) t (V+2)))) (bF (Z+4,aa o1.ep o1.vs) (qi (Z+4) false ta la epl tk (dd:Int) (dq lv) Xl szl tokl))) o1.Z o1.V (bc 0 (vY 700 845 l t root ru szr tokr) (szl+3) (tokl+2) (bN (nm root) (nm []) bq kk))))):=fun {Fz kk} root bq hz hr hb h=>by
  rw[←hv]
  refine o4 (by lia) (dO (fU rfl (hans1.mono' (Sub.mono hz))) (dO (fU rfl (fU rfl (hansl.mono' (Sub.mono (Sub.mono (Sub.mono hz)))))) (dO ?_ (gm hb h))))
  rw[←hr]
  exact hansr.mono' (hz.trans fun b o q=>.inl (.inl q))
 rcases zj l with hr|⟨rr,hr⟩
 ·refine nM (comp2 (szr+2) (szr+3) (szr+4) (szr+5) (tokr+5)) fun cur2 o2 p2 hc2 ho2 hv2 hp2 hans2=>?_
  have hle:Z≤o2.Z+1:=by lia
  have hj:=hjoin dd (tokr+2) p2 hdd hp2
  have hjl:=fj [47] (aF (List.replicate dd ([46,46],tokr+2)++p2))
  have etf:aF (List.replicate dd ([46,46],tokr+2)++p2)=List.replicate dd [46,46]++(lv.map (·.1)).map (fun k=>(aQ 47 l).getD k []):=by rw[rU,rW,hp2,emap]
  have etv:List.replicate dd (.str (nm [46,46]) (tokr+2))++o2.vs=tvs (List.replicate dd ([46,46],tokr+2)++p2):=by rw[Fd,FT,hv2]
  have hpl:placeOf l=qM ([]++ao [47] (aF (List.replicate dd ([46,46],tokr+2)++p2))):=by rw[hres [] _ hr rfl,if_pos rfl,etf]
  have tail:∀{Fz:bw} {n:Int},Sub Fn Fz→(([]++ao [47] (aF (List.replicate dd ([46,46],tokr+2)++p2))).length:Int)=n→aA aH w J dr os (aj (aj (aj Fz o1.X) Xl) cQ)
    (qy 512 (fun _=>[(szr,aa 0 [.str (nm [46,46]) (tokr+2)])]) (fun _=>szr) (dd:Int) (fun _=>.str (nm [46,46]) (tokr+2)) dd (bc 14342 (bF (Z+1,bU (.ref (Z+2))) (bF (Z+2,aa 0 (strValues (mO (nm l) (nm [47]) t (V+2)))) (cC 900 (dK (sy w.params) (tH w.params Z (Z+1) (szr+4)) (szr+2) (szr+3)) vK (szr+4) (szr+2) la (szr+3) lv.length cur2 o2))) (szr+5) (tokr+5)
     (dY 5120 [(szr+1,aa 0 (List.replicate dd (.str (nm [46,46]) (tokr+2)))),(szr+3,aa o2.ep o2.vs)] (szr+1) (szr+3) (List.replicate dd (.str (nm [46,46]) (tokr+2))) o2.vs (dF 16384 [(o2.Z,aa 0 (List.replicate dd (.str (nm [46,46]) (tokr+2))++o2.vs))] [47] o2.Z (List.replicate dd ([46,46],tokr+2)++p2)
      (dB [] (ao [47] (aF (List.replicate dd ([46,46],tokr+2)++p2))) (aU (nm ([]++ao [47] (aF (List.replicate dd ([46,46],tokr+2)++p2)))) n .nil)))))):=fun {Fz n} hz hn=>by
   rw[←hv,etv]
   refine Fo (fun _=>⟨0,.inr (.head _)⟩) rfl (by lia) (dO (hans2 _ (hz.trans fun b o q=>.inl (.inl (.inl q))) fun b o q=>.inl (.inr q)) (nq (.inr (.head _)) (.inr (.tail _ (.head _))) ?_ (lL (.inr (.head _)) (by lia) (jZ (by show 0+_≤_;lia) (bY hn (hsl _ (by show(ao [47] _).length≤_;lia)) trivial)))))
   rw[List.length_replicate,hv2,aG]
   have:=congrArg List.length hp2
   rw[cJ,List.length_map] at this
   lia
  rcases hc2 with⟨e,rfl⟩|⟨e,x2,rfl⟩
  ·cases hz:([]++ao [47] (aF (List.replicate dd ([46,46],tokr+2)++p2)):List Nat) with
   |nil=>
    refine cj (oG w.params l t o1 x1 (tvs pc).length ta la epl tk (dd:Int) (dq lv) Xl szl tokl ru szr tokr dd o2 lv.length (List.replicate dd ([46,46],tokr+2)++p2) 0 Z V) fun R hR H hs=>?_
    have hans:=gZ hR H hs rfl hkt (fun _ q=>(nomatch q)) fun Fz hF=>ant0 [] true hF hr rfl (tail hF (by rw[hz];rfl))
    rw[hpl,hz]
    exact⟨iW R,_,bk R,hle,hans⟩
   |cons a b=>
    refine cj (oN w.params l t o1 x1 (tvs pc).length ta la epl tk (dd:Int) (dq lv) Xl szl tokl ru szr tokr dd o2 lv.length (List.replicate dd ([46,46],tokr+2)++p2) b.length Z V) fun R hR H hs=>?_
    have hans:=gZ hR H hs rfl hkt (fun _ q=>(nomatch q)) fun Fz hF=>ant0 [] true hF hr rfl (tail hF (by rw[hz];rfl))
    rw[hz] at hans
    rw[hpl,hz]
    exact⟨iW R,_,bk R,hle,hans⟩
  ·obtain⟨p,hp⟩:=List.exists_mem_of_ne_nil lv e
   have hne:ao [47] (aF (List.replicate dd ([46,46],tokr+2)++p2))≠[]:=by
    refine yj (x:=(aQ 47 l).getD p.1 []) ?_ (hks p.1 (List.mem_map.mpr ⟨p,hp,rfl⟩)).2
    rw[etf,emap]
    exact List.mem_append_right _ (List.mem_map.mpr ⟨p,hp,rfl⟩)
   cases hz:([]++ao [47] (aF (List.replicate dd ([46,46],tokr+2)++p2)):List Nat) with
   |nil=>exact absurd hz hne
   |cons a b=>
    refine cj (oH w.params l t o1 x1 (tvs pc).length ta la epl tk (dd:Int) (dq lv) Xl szl tokl ru szr tokr dd o2 lv.length (List.replicate dd ([46,46],tokr+2)++p2) b.length x2 Z V) fun R hR H hs=>?_
    have hans:=gZ hR H hs rfl hkt (fun _ q=>(nomatch q)) fun Fz hF=>ant0 [] true hF hr rfl (tail hF (by rw[hz];rfl))
    rw[hz] at hans
    rw[hpl,hz]
    exact⟨iW R,_,bk R,hle,hans⟩
 ·refine nM (comp2 (szr+1) (szr+2) (szr+3) (szr+4) (tokr+4)) fun cur2 o2 p2 hc2 ho2 hv2 hp2 hans2=>?_
  have hle:Z≤o2.Z+1:=by lia
  have hj:cR [47] (aF p2)≤90000:=hjoin 0 0 p2 (by lia) hp2
  have hjl:=fj [47] (aF p2)
  have hrl:(47::rr).length≤2:=by rw[←hr];exact xY l
  have hpl:placeOf l=(47::rr)++ao [47] (aF p2):=by
   rw[hres (47::rr) _ hr rfl,if_neg (by simp),List.nil_append,emap,←hp2]
   rfl
  have tail:∀{Fz:bw},Sub Fn Fz→aA aH w J dr os (aj (aj (aj Fz o1.X) Xl) cQ)
    (bc 7174 (bF (Z+1,bU (.ref (Z+2))) (bF (Z+2,aa 0 (strValues (mO (nm l) (nm [47]) t (V+2)))) (cC 900 (dK (sy w.params) (tH w.params Z (Z+1) (szr+3)) (szr+1) (szr+2)) vK (szr+3) (szr+1) la (szr+2) lv.length cur2 o2))) (szr+4) (tokr+4)
     (dY 2560 [(szr,aa 0 []),(szr+2,aa o2.ep o2.vs)] szr (szr+2) [] o2.vs (dF 8192 [(o2.Z,aa 0 ([]++o2.vs))] [47] o2.Z p2
      (dB (47::rr) (ao [47] (aF p2)) (aU (nm ((47::rr)++ao [47] (aF p2))) (Int.ofNat ((rr++ao [47] (aF p2)).length+1)) .nil))))):=fun {Fz} hz=>by
   rw[←hv,hv2]
   refine dO (hans2 _ (hz.trans fun b o q=>.inl (.inl (.inl q))) fun b o q=>.inl (.inr q)) (nq (.inr (.head _)) (.inr (.tail _ (.head _))) ?_ (lL (.inr (.head _)) (by lia) (jZ (by lia) (bY rfl (hsl _ (by rw[List.length_append];lia)) trivial))))
   rw[aG]
   have:=congrArg List.length hp2
   rw[cJ,List.length_map] at this
   rw[List.length_map] at hlvl
   show 0+p2.length≤_
   lia
  rw[hpl]
  rcases hc2 with⟨e,rfl⟩|⟨e,x2,rfl⟩
  ·refine cj (pA w.params l t o1 x1 (tvs pc).length ta la epl tk (dd:Int) (dq lv) Xl szl tokl ru szr tokr dd o2 lv.length p2 (rr++ao [47] (aF p2)).length rr Z V) fun R hR H hs=>?_
   exact⟨iW R,_,bk R,hle,gZ hR H hs rfl hkt (fun _ q=>(nomatch q)) fun Fz hF=>ant0 (47::rr) false hF hr rfl (tail hF)⟩
  ·refine cj (oJ w.params l t o1 x1 (tvs pc).length ta la epl tk (dd:Int) (dq lv) Xl szl tokl ru szr tokr dd o2 lv.length p2 (rr++ao [47] (aF p2)).length rr x2 Z V) fun R hR H hs=>?_
   exact⟨iW R,_,bk R,hle,gZ hR H hs rfl hkt (fun _ q=>(nomatch q)) fun Fz hF=>ant0 (47::rr) false hF hr rfl (tail hF)⟩
end
end
noncomputable def zf (k:Hk)(W ia:Nat)(cur:Option Nat):Obj:=match cur with
 |none=>nZ iD k 2 [(tE,.ref W),(ym,.ref ia)]
 |some wa=>nZ iD k 3 [(tE,.ref W),(ym,.ref ia),(gP,.ref wa)]
noncomputable def Dz (P:Params)(fr it:Nat):Code:=Jq (stOf P 831 1) it (envOf P 831 fr Ec [])
structure ItO where
 kf:Hk→Hk
 ia:Nat
 n:Nat
 X:bw
 Z:Nat
 V:Nat
noncomputable def zK (P:Params)(fr it W acc ep wl:Nat)(vs ws:List Value)(cur:Option Nat)(o:ItO)(g:Led):Ans:=
 ⟨Dz P fr it,800,[(fr,zf (aP (au g 0)) W acc none),(acc,aa ep vs),(wl,aa 0 ws),(it,cz wl 0)],.ok .next,
  [zf (o.kf (aP (au g 0))) W o.ia cur,aa ep vs,aa 0 ws,jo o.n],[],o.X,[],o.Z,o.V⟩
theorem pN P fr it l i W ia epi wa epw la epl xt nr k vsd vsi vsw vsl rest x o x1 Z V:∃R,bh P none 800 132 Vm (Dz P fr it) [(fr,zf k W ia none),(it,cz l i)] Z V [(ia,aa epi vsi),(wa,aa epw vsw),(la,aa epl vsl)] (dU 2 it l i (.ref wa) (iI 4 (fun g=>[(az g 0,jn .none (.int (-1) (fL (au g 0) 1)))]) ia (fun g=>az g 0) vsd (dC 0 [] ia (.ref la) (aX 0 [] wa 0 (.str (nm x) xt) (dY 16 [(Z+2,aa 0 [(.str (nm x) xt)])] la (Z+2) vsl [(.str (nm x) xt)] (dY 72 [(Z+1,aa 0 vsd),(Z+4,aa 0 [.ref (Z+3)])] (Z+1) (Z+4) vsd [.ref (Z+3)] (iI 256 (fun g=>[(az g 0,jn (.int 1 (fL (au g 0) 0)) .none)]) wa (fun g=>az g 0) rest (bc 7680 (bF (Z+7,aa 0 rest) (cC 900 (dK (Hz P) (H9 P fr (Z+10)) (Z+8) (Z+9)) bz (Z+10) (Z+8) (Z+7) (Z+9) nr (some x1) o)) (Z+11) (V+7) (dY 2176 [(Z+5,aa 0 (vsd++[.ref (Z+3)])),(Z+9,aa o.ep o.vs)] (Z+5) (Z+9) (vsd++[.ref (Z+3)]) o.vs (.nil))))))))))=R∧vw R 8739=(true,true,.again (Dz P fr it),[(fr,zf (ak R 0) W o.Z (some wa)),(it,cz l (i+1))]++[(Z+3,aa 0 (vsl++[(.str (nm x) xt)])),(Z+7,aa 0 rest),(o.Z,aa 0 (vsd++[.ref (Z+3)]++o.vs))],rights (cH R))∧dw R=o.Z+1∧bk R=o.V+1∧rF R=(aj (aj (aj (aj (aj (aj (aj (aj (aj (fun _ _=>False) (cQ)) (cQ)) (cQ)) (cQ)) (cQ)) (cQ)) (cQ)) (o.X)) (cQ)):=⟨_,rfl,by kernel_rfl,by kernel_rfl,by kernel_rfl,by kernel_rfl⟩
theorem pX P fr it l i W ia epi wa epw la epl xt nr k vsd vsi vsw vsl rest x o Z V:∃R,bh P none 800 128 Wm (Dz P fr it) [(fr,zf k W ia none),(it,cz l i)] Z V [(ia,aa epi vsi),(wa,aa epw vsw),(la,aa epl vsl)] (dU 2 it l i (.ref wa) (iI 4 (fun g=>[(az g 0,jn .none (.int (-1) (fL (au g 0) 1)))]) ia (fun g=>az g 0) vsd (dC 0 [] ia (.ref la) (aX 0 [] wa 0 (.str (nm x) xt) (dY 16 [(Z+2,aa 0 [(.str (nm x) xt)])] la (Z+2) vsl [(.str (nm x) xt)] (dY 72 [(Z+1,aa 0 vsd),(Z+4,aa 0 [.ref (Z+3)])] (Z+1) (Z+4) vsd [.ref (Z+3)] (iI 256 (fun g=>[(az g 0,jn (.int 1 (fL (au g 0) 0)) .none)]) wa (fun g=>az g 0) rest (bc 7680 (bF (Z+7,aa 0 rest) (cC 900 (dK (Hz P) (H9 P fr (Z+10)) (Z+8) (Z+9)) bz (Z+10) (Z+8) (Z+7) (Z+9) nr none o)) (Z+11) (V+7) (dY 2176 [(Z+5,aa 0 (vsd++[.ref (Z+3)])),(Z+9,aa o.ep o.vs)] (Z+5) (Z+9) (vsd++[.ref (Z+3)]) o.vs (.nil))))))))))=R∧vw R 8739=(true,true,.again (Dz P fr it),[(fr,zf (ak R 0) W o.Z (some wa)),(it,cz l (i+1))]++[(Z+3,aa 0 (vsl++[(.str (nm x) xt)])),(Z+7,aa 0 rest),(o.Z,aa 0 (vsd++[.ref (Z+3)]++o.vs))],rights (cH R))∧dw R=o.Z+1∧bk R=o.V+1∧rF R=(aj (aj (aj (aj (aj (aj (aj (aj (aj (fun _ _=>False) (cQ)) (cQ)) (cQ)) (cQ)) (cQ)) (cQ)) (cQ)) (o.X)) (cQ)):=⟨_,rfl,by kernel_rfl,by kernel_rfl,by kernel_rfl,by kernel_rfl⟩
theorem pO P fr it l i W ia epi wa epw la epl xt nr k vsd vsi vsw vsl rest x o w0 x1 Z V:∃R,bh P none 800 132 Vm (Dz P fr it) [(fr,zf k W ia (some w0)),(it,cz l i)] Z V [(ia,aa epi vsi),(wa,aa epw vsw),(la,aa epl vsl)] (dU 2 it l i (.ref wa) (iI 4 (fun g=>[(az g 0,jn .none (.int (-1) (fL (au g 0) 1)))]) ia (fun g=>az g 0) vsd (dC 0 [] ia (.ref la) (aX 0 [] wa 0 (.str (nm x) xt) (dY 16 [(Z+2,aa 0 [(.str (nm x) xt)])] la (Z+2) vsl [(.str (nm x) xt)] (dY 72 [(Z+1,aa 0 vsd),(Z+4,aa 0 [.ref (Z+3)])] (Z+1) (Z+4) vsd [.ref (Z+3)] (iI 256 (fun g=>[(az g 0,jn (.int 1 (fL (au g 0) 0)) .none)]) wa (fun g=>az g 0) rest (bc 7680 (bF (Z+7,aa 0 rest) (cC 900 (dK (Hz P) (H9 P fr (Z+10)) (Z+8) (Z+9)) bz (Z+10) (Z+8) (Z+7) (Z+9) nr (some x1) o)) (Z+11) (V+7) (dY 2176 [(Z+5,aa 0 (vsd++[.ref (Z+3)])),(Z+9,aa o.ep o.vs)] (Z+5) (Z+9) (vsd++[.ref (Z+3)]) o.vs (.nil))))))))))=R∧vw R 8739=(true,true,.again (Dz P fr it),[(fr,zf (ak R 0) W o.Z (some wa)),(it,cz l (i+1))]++[(Z+3,aa 0 (vsl++[(.str (nm x) xt)])),(Z+7,aa 0 rest),(o.Z,aa 0 (vsd++[.ref (Z+3)]++o.vs))],rights (cH R))∧dw R=o.Z+1∧bk R=o.V+1∧rF R=(aj (aj (aj (aj (aj (aj (aj (aj (aj (fun _ _=>False) (cQ)) (cQ)) (cQ)) (cQ)) (cQ)) (cQ)) (cQ)) (o.X)) (cQ)):=⟨_,rfl,by kernel_rfl,by kernel_rfl,by kernel_rfl,by kernel_rfl⟩
theorem pK P fr it l i W ia epi wa epw la epl xt nr k vsd vsi vsw vsl rest x o w0 Z V:∃R,bh P none 800 128 Wm (Dz P fr it) [(fr,zf k W ia (some w0)),(it,cz l i)] Z V [(ia,aa epi vsi),(wa,aa epw vsw),(la,aa epl vsl)] (dU 2 it l i (.ref wa) (iI 4 (fun g=>[(az g 0,jn .none (.int (-1) (fL (au g 0) 1)))]) ia (fun g=>az g 0) vsd (dC 0 [] ia (.ref la) (aX 0 [] wa 0 (.str (nm x) xt) (dY 16 [(Z+2,aa 0 [(.str (nm x) xt)])] la (Z+2) vsl [(.str (nm x) xt)] (dY 72 [(Z+1,aa 0 vsd),(Z+4,aa 0 [.ref (Z+3)])] (Z+1) (Z+4) vsd [.ref (Z+3)] (iI 256 (fun g=>[(az g 0,jn (.int 1 (fL (au g 0) 0)) .none)]) wa (fun g=>az g 0) rest (bc 7680 (bF (Z+7,aa 0 rest) (cC 900 (dK (Hz P) (H9 P fr (Z+10)) (Z+8) (Z+9)) bz (Z+10) (Z+8) (Z+7) (Z+9) nr none o)) (Z+11) (V+7) (dY 2176 [(Z+5,aa 0 (vsd++[.ref (Z+3)])),(Z+9,aa o.ep o.vs)] (Z+5) (Z+9) (vsd++[.ref (Z+3)]) o.vs (.nil))))))))))=R∧vw R 8739=(true,true,.again (Dz P fr it),[(fr,zf (ak R 0) W o.Z (some wa)),(it,cz l (i+1))]++[(Z+3,aa 0 (vsl++[(.str (nm x) xt)])),(Z+7,aa 0 rest),(o.Z,aa 0 (vsd++[.ref (Z+3)]++o.vs))],rights (cH R))∧dw R=o.Z+1∧bk R=o.V+1∧rF R=(aj (aj (aj (aj (aj (aj (aj (aj (aj (fun _ _=>False) (cQ)) (cQ)) (cQ)) (cQ)) (cQ)) (cQ)) (cQ)) (o.X)) (cQ)):=⟨_,rfl,by kernel_rfl,by kernel_rfl,by kernel_rfl,by kernel_rfl⟩
theorem rK P fr it l i W ia k Z V:Fa (bh P none 800 8 3302863405568 (Dz P fr it) [(fr,zf k W ia none),(it,cz l i)] Z V [] (xK 2 it l i (.nil))) 3 (.done .next) (fun _=>[(fr,zf k W ia none),(it,jo i)]++[]) (Z+2) (V+0):=⟨by kernel_rfl⟩
theorem rZ P fr it l i W ia k w0 Z V:Fa (bh P none 800 8 3302863405568 (Dz P fr it) [(fr,zf k W ia (some w0)),(it,cz l i)] Z V [] (xK 2 it l i (.nil))) 3 (.done .next) (fun _=>[(fr,zf k W ia (some w0)),(it,jo i)]++[]) (Z+2) (V+0):=⟨by kernel_rfl⟩
theorem my P W epW wa epw n1 was vsw rest o1 x1 o Z V:∃R,bh P none 700 79 Ur (.call (.ref 831) ⟨[.ref W],[]⟩) [] Z V [(W,aa epW was),(wa,aa epw vsw)] (aX 0 [] W 0 (.ref wa) (bc 14 (cC 900 (dK (JB P) (K5 P Z (Z+3)) (Z+1) (Z+2)) bz (Z+3) (Z+1) wa (Z+2) n1 (some x1) o1) (Z+4) (V+2) (iI 16 (fun g=>[(az g 0,jn (.int 1 (fL (au g 0) 0)) .none)]) W (fun g=>az g 0) rest (ju 101 (zK P Z (o1.Z+2) W (Z+2) o1.ep (o1.Z+1) o1.vs rest none o) (o1.Z+3) (o1.V+2) (.nil)))))=R∧vw R 36=(true,true,.done (.ret (.ref o.ia)),[]++[(Z+2,aa o1.ep o1.vs),(o1.Z+1,aa 0 rest)],rights (cH R))∧dw R=o.Z∧bk R=o.V∧rF R=(aj (aj (aj (aj (fun _ _=>False) (cQ)) (o1.X)) (cQ)) (o.X)):=⟨_,rfl,by kernel_rfl,by kernel_rfl,by kernel_rfl,by kernel_rfl⟩
theorem lY P W epW wa epw n1 was vsw rest o1 x1 o w0 Z V:∃R,bh P none 700 79 Ur (.call (.ref 831) ⟨[.ref W],[]⟩) [] Z V [(W,aa epW was),(wa,aa epw vsw)] (aX 0 [] W 0 (.ref wa) (bc 14 (cC 900 (dK (JB P) (K5 P Z (Z+3)) (Z+1) (Z+2)) bz (Z+3) (Z+1) wa (Z+2) n1 (some x1) o1) (Z+4) (V+2) (iI 16 (fun g=>[(az g 0,jn (.int 1 (fL (au g 0) 0)) .none)]) W (fun g=>az g 0) rest (ju 101 (zK P Z (o1.Z+2) W (Z+2) o1.ep (o1.Z+1) o1.vs rest (some w0) o) (o1.Z+3) (o1.V+2) (.nil)))))=R∧vw R 36=(true,true,.done (.ret (.ref o.ia)),[]++[(Z+2,aa o1.ep o1.vs),(o1.Z+1,aa 0 rest)],rights (cH R))∧dw R=o.Z∧bk R=o.V∧rF R=(aj (aj (aj (aj (fun _ _=>False) (cQ)) (o1.X)) (cQ)) (o.X)):=⟨_,rfl,by kernel_rfl,by kernel_rfl,by kernel_rfl,by kernel_rfl⟩
section
open Builtin Builtin.Str Builtin.Int
noncomputable def aZ (items:List (List (List Nat)))(ws:List (List Nat)):List (List (List Nat)):=
 items.dropLast++[items.getLast?.getD []++[ws.headD []]]++(ws.drop 1).map fun p=>[p]
noncomputable def itemsOf:List (List (List Nat))→List (List (List Nat))
 |[]=>[]
 |w0::r=>r.foldl aZ (w0.map fun p=>[p])
theorem G3 {p:Addr×Obj}{l:Led}{b:Addr}{o:Obj}(q:bG [p] b o)(h:p∈l):bG l b o:=by
 have e:=List.mem_singleton.mp q
 show(b,o)∈l
 rw[e]
 exact h
theorem All2.dropLast {α β:Type}{R:α→β→Prop}:∀{l:List α} {m:List β},All2 R l m→All2 R l.dropLast m.dropLast:=fun k=>by
 induction k with
 |nil=>exact .nil
 |cons h t ih=>cases t with
  |nil=>exact .nil
  |cons h2 t=>exact .cons h ih
theorem All2.last {α β:Type}{R:α→β→Prop}:∀{l:List α} {m:List β},All2 R l m→m≠[]→∃a b,l.getLast?=some a∧m.getLast?=some b∧R a b:=fun k e=>by
 induction k with
 |nil=>exact absurd rfl e
 |cons h t ih=>cases t with
  |nil=>exact⟨_,_,rfl,rfl,h⟩
  |cons h2 t=>
   refine c7 (ih (List.cons_ne_nil _ _)) fun x y h3 h4 h5=>?_
   exact⟨x,y,by rw[List.getLast?_cons_cons];exact h3,by rw[List.getLast?_cons_cons];exact h4,h5⟩
theorem All2.drop {α β:Type}{R:α→β→Prop}:∀{l:List α} {m:List β} (n:Nat),All2 R l m→All2 R (l.drop n) (m.drop n):=by
 intro l m n
 induction n generalizing l m with
 |zero=>exact fun h=>h
 |succ n ih=>
  intro h
  cases h with
  |nil=>exact .nil
  |cons _ t=>exact ih t
theorem aM {F G:bw}{ds:List (List (List Nat))}{vs:List Value}(hs:Sub F G)(h:All2 (j0 F) vs ds):All2 (j0 G) vs ds:=h.imp fun _ _ q=>q.mono hs
theorem xj {F G:bw}{ds:List (List Nat)}{vs:List Value}(hs:Sub F G)(h:All2 (fun dd v=>j0 F v [dd]) ds vs):All2 (j0 G) vs (ds.map fun p=>[p]):=by
 induction h with
 |nil=>exact .nil
 |cons h _ ih=>exact .cons (h.mono hs) ih
theorem yR (items:List (List (List Nat)))(ws:List (List Nat)):(aZ items ws).length≤items.length+ws.length+1:=by
 unfold aZ
 simp only[List.length_append,List.length_dropLast,List.length_cons,List.length_nil,List.length_map,List.length_drop]
 lia
theorem jP (items:List (List (List Nat)))(ws:List (List Nat)):aZ items ws≠[]:=by
 unfold aZ
 simp
theorem yN {items:List (List (List Nat))}{ws:List (List Nat)}{n:Nat}(h:∀x∈items,x.length≤n)(hn:1≤n+1):∀x∈aZ items ws,x.length≤n+1∧(x≠[]∨x∈items):=fun x hx=>by
 unfold aZ at hx
 rcases List.mem_append.mp hx with hx|hx
 ·rcases List.mem_append.mp hx with hx|hx
  ·have:=List.dropLast_subset items hx
   exact⟨Nat.le_succ_of_le (h x this),.inr this⟩
  ·rw[List.mem_singleton] at hx
   subst hx
   refine⟨?_,.inl (by simp)⟩
   cases hl:items.getLast? with
   |none=>show 0+1≤_;lia
   |some y=>
    have:=h y (List.mem_of_getLast? hl)
    show(y++_).length≤_
    rw[List.length_append]
    show y.length+1≤_
    lia
 ·refine aL (List.mem_map.mp hx) fun p _ er3=>?_;subst er3
  exact⟨hn,.inl (by simp)⟩
section
variable {w:World} {J:Array GenState} {dr:Drawn} {os:Osw}
theorem DQ {Fn:bw}(hkt:Sub (KF w.params) Fn)(fr it W wl epw:Nat)(wvs:List Value)(hwl:Fn wl (aa epw wvs))(ws:List (List (List Nat)))(hws:All2 (j0 Fn) wvs ws)(hwp:∀x∈ws,x≠[]∧x.length≤100)(hwn:ws.length≤100)(ia0 epi0:Nat)(vsi0:List Value)(hI0:Fn ia0 (aa epi0 vsi0))(items0:List (List (List Nat)))(hit0:All2 (j0 Fn) vsi0 items0)(hne0:items0≠[])(hlen0:items0.length≤200)(hpos0:∀x∈items0,x≠[]∧x.length≤1)(base Z V:Nat)(hb:base≤Z)(hb0:base≤ia0):
  ∃(ia epi:Nat) (vsi:List Value) (cur:Option Nat) (X:bw) (Z' V':Nat),Z≤Z'∧aW X Z∧base≤ia∧aj Fn X ia (aa epi vsi)∧All2 (j0 (aj Fn X)) vsi (ws.foldl aZ items0)∧(∀x∈ws.foldl aZ items0,x≠[]∧x.length≤101)∧(ws.foldl aZ items0).length≤20000∧ws.foldl aZ items0≠[]∧∀k,∃k',∀Fz,Sub Fn Fz→
   jO aH w J dr os 800 (Dz w.params fr it) Fz [(fr,zf k W ia0 none),(it,cz wl 0)] Z V (.ok .next) (aj Fz X) [(fr,zf k' W ia cur),(it,jo ws.length)] Z' V':=by
 have hq:(Dz w.params fr it).quiet=true:=by kernel_rfl
 have hvl:=hws.len
 obtain⟨⟨cur,ia,epi,vsi,items⟩,X,Z',V',h1,h2,h3,h4⟩:=Hn (w:=w) (J:=J) (dr:=dr) (os:=os) (lim:=800) (c:=Dz w.params fr it) (r:=.ok .next) (S:=Option Nat×Nat×Nat×List Value×List (List (List Nat))) (n:=ws.length) (base:=base) (Fn:=Fn)
  (ld:=fun i s k _=>[(fr,zf k W s.2.1 s.1),(it,cz wl i)]) (ld':=fun s k _=>[(fr,zf k W s.2.1 s.1),(it,jo ws.length)])
  (I:=fun i s Fr=>base≤s.2.1∧Fr s.2.1 (aa s.2.2.1 s.2.2.2.1)∧All2 (j0 Fr) s.2.2.2.1 s.2.2.2.2∧s.2.2.2.2=(ws.take i).foldl aZ items0∧s.2.2.2.2≠[]∧s.2.2.2.2.length≤200+i*101∧(∀x∈s.2.2.2.2,x≠[]∧x.length≤i+1))
  (fun i s Fr Z V hi hbs hF hI=>by
   refine Classical.byContradiction fun hNN=>?_
   obtain⟨cur,ia,epi,vsi,items⟩:=s
   refine ji hI fun hba hia hit hfold hine hilen hipos=>?_
   simp only at hba hia hit hfold hine hilen hipos
   have hwi:ws[i]?=some ws[i]:=List.getElem?_eq_getElem hi
   have hvi:wvs[i]?=some (wvs[i]'(by lia)):=List.getElem?_eq_getElem _
   obtain⟨wd,hwd,wa,epa,pw,hv,hfw,hpw⟩:=hws.get hvi
   rw[hv] at hvi
   have hwpos:=hwp wd (List.mem_of_getElem? hwd)
   obtain⟨vl,last,hvlast,hlast,la,epl,pl,hvla,hfla,hpl⟩:=hit.last hine
   subst hvla
   match pw,hpw with
   |[],hpw=>exact absurd hpw.symm hwpos.1
   |(x,xt)::pr,hpw=>
    have hwe:wd=x::aF pr:=hpw.symm
    have hprl:(aF pr).length≤99:=by
     have:=hwpos.2
     rw[hwe,List.length_cons] at this
     lia
    have hvsl:=hit.len
    have hpll:pl.length≤i+1:=by
     have:=(hipos last (List.mem_of_getLast? hlast)).2
     rw[←hpl,cJ] at this
     exact this
    have hib:i*101≤100*101:=Nat.mul_le_mul_right _ (by lia)
    refine je (m7 (w:=w) (J:=J) (dr:=dr) (os:=os) (Fn:=aj Fr (bG [(Z+7,aa 0 (tvs pr))])) ((hkt.trans hF).trans (Sub.orL _ _)) fr (Z+10) (Z+8) (Z+9) (Z+7) 0 (tvs pr) (.inr (.head _)) (by rw[aG];rw[cJ] at hprl;lia) (dD pr) (Z+11) (V+7)) fun c1 o hc1 ho hX hall hans=>?_
    have hol:o.vs.length=pr.length:=by rw[hall.len,cJ]
    have hstep:aZ items wd=items.dropLast++[last++[x]]++(aF pr).map fun p=>[p]:=by
     unfold aZ
     rw[hlast,hwe]
     rfl
    have htake:(ws.take (i+1)).foldl aZ items0=aZ items wd:=by
     rw[List.take_add_one,hwd,List.foldl_append,←hfold]
     rfl
    have hsub:∀{G:bw},Sub (aj (aj Fr (bG [(Z+7,aa 0 (tvs pr))])) o.X) (aj Fr (aj o.X (bG [(Z+3,aa 0 (tvs pl++[.str (nm x) xt])),(Z+7,aa 0 (tvs pr)),(o.Z,aa 0 (vsi.dropLast++[.ref (Z+3)]++o.vs))]))):=fun {_} b ob q=>q.elim (fun q=>q.elim .inl fun q=>.inr (.inr (G3 q (.tail _ (.head _))))) fun q=>.inr (.inl q)
    have ant:∀Fz,Sub Fr Fz→aA aH w J dr os Fz (dU 2 it wl i (.ref wa) (iI 4 (fun g=>[(az g 0,jn .none (.int (-1) (fL (au g 0) 1)))]) ia (fun g=>az g 0) vsi.dropLast (dC 0 [] ia (.ref la) (aX 0 [] wa 0 (.str (nm x) xt) (dY 16 [(Z+2,aa 0 [.str (nm x) xt])] la (Z+2) (tvs pl) [.str (nm x) xt] (dY 72 [(Z+1,aa 0 vsi.dropLast),(Z+4,aa 0 [.ref (Z+3)])] (Z+1) (Z+4) vsi.dropLast [.ref (Z+3)]
      (iI 256 (fun g=>[(az g 0,jn (.int 1 (fL (au g 0) 0)) .none)]) wa (fun g=>az g 0) (tvs pr) (bc 7680 (bF (Z+7,aa 0 (tvs pr)) (cC 900 (dK (Hz w.params) (H9 w.params fr (Z+10)) (Z+8) (Z+9)) bz (Z+10) (Z+8) (Z+7) (Z+9) (tvs pr).length c1 o)) (Z+11) (V+7) (dY 2176 [(Z+5,aa 0 (vsi.dropLast++[.ref (Z+3)])),(Z+9,aa o.ep o.vs)] (Z+5) (Z+9) (vsi.dropLast++[.ref (Z+3)]) o.vs .nil))))))))):=fun Fz hz=>by
     refine gO (hz _ _ (hF _ _ hwl)) hvi (tU (lo:=none) (hi:=some (-1)) (ep:=epi) (vs:=vsi) (fun _=>.inl (hz _ _ hia)) (fun g=>⟨_,_,.head _,.none,.int _ _⟩) (by lia) (HY _) (fu (.inl (hz _ _ hia)) hvlast (ie (.inl (hz _ _ (hF _ _ hfw))) (by decide) (by decide) rfl (nq (.inl (hz _ _ hfla)) (.inr (.head _)) ?_ (nq (.inr (.head _)) (.inr (.tail _ (.head _))) ?_ (tU (lo:=some 1) (hi:=none) (ep:=epa) (vs:=tvs ((x,xt)::pr)) (fun _=>.inl (hz _ _ (hF _ _ hfw))) (fun g=>⟨_,_,.head _,.int _ _,.none⟩) ?_ (lW _) (dO (fU rfl (hans.mono' (Sub.mono hz))) (nq (.inr (.head _)) (.inr (.tail _ (.head _))) ?_ trivial))))))))
     ·rw[aG];show pl.length+1≤_;lia
     ·rw[List.length_dropLast];show _+1≤_;lia
     ·rw[aG];show pr.length+1≤_;rw[cJ] at hprl;lia
     ·rw[List.length_append,List.length_dropLast,hol];show _+1+pr.length≤_;rw[cJ] at hprl;lia
    refine hNN ⟨(some wa,o.Z,0,vsi.dropLast++[.ref (Z+3)]++o.vs,aZ items wd),aj o.X (bG [(Z+3,aa 0 (tvs pl++[.str (nm x) xt])),(Z+7,aa 0 (tvs pr)),(o.Z,aa 0 (vsi.dropLast++[.ref (Z+3)]++o.vs))]),o.Z+1,o.V+1,by lia,(hX.le (Nat.le_add_right _ _)).or (aW.frL ?_),⟨by show base≤o.Z;lia,.inr (.inr (.tail _ (.tail _ (.head _)))),?_,htake.symm,jP _ _,?_,?_⟩,fun k t=>?_⟩
    ·intro q hq
     simp only[List.mem_cons,List.not_mem_nil,or_false] at hq
     rcases hq with rfl|rfl|rfl
     ·show Z≤Z+3;lia
     ·show Z≤Z+7;lia
     ·show Z≤o.Z;lia
    ·rw[hstep]
     refine All2.app (All2.app (aM (Sub.orL _ _) hit.dropLast) (.cons ⟨Z+3,0,pl++[(x,xt)],rfl,.inr (.inr ?_),by rw[fW,hpl]⟩ .nil)) (xj (hsub (G:=Fr)) hall)
     rw[←iU]
     exact .head _
    ·have:=yR items wd
     have e:(i+1)*101=i*101+101:=by rw[Nat.add_mul]
     simp only
     have:=hwpos.2
     lia
    ·intro y hy
     obtain⟨g1,g2⟩:=yN (n:=i+1) (fun z hz=>(hipos z hz).2) (by lia) y hy
     exact⟨g2.elim id fun q=>(hipos y q).1,g1⟩
    ·clear hNN
     rcases hc1 with⟨e,rfl⟩|⟨e,x1,rfl⟩<;>cases cur with
     |none=>
      first
      |(refine gB (pX w.params fr it wl i W ia epi wa epa la epl xt (tvs pr).length k vsi.dropLast vsi (tvs ((x,xt)::pr)) (tvs pl) (tvs pr) x o Z V) fun R hR H hs htt hX'=>?_
        exact⟨_,t,fun Fz hz=>fZ hR H hs htt (by rw[hX'];exact fun b ob q=>.inl (.inr q)) hq (fun a ob q=>hz _ _ (hF _ _ (hkt a ob q))) (by
        intro q hq'
        simp only[List.mem_cons,List.not_mem_nil,or_false] at hq'
        rcases hq' with rfl|rfl|rfl
        ·exact hz _ _ hia
        ·exact hz _ _ (hF _ _ hfw)
        ·exact hz _ _ hfla) (ant Fz hz)⟩)
      |(refine gB (pN w.params fr it wl i W ia epi wa epa la epl xt (tvs pr).length k vsi.dropLast vsi (tvs ((x,xt)::pr)) (tvs pl) (tvs pr) x o x1 Z V) fun R hR H hs htt hX'=>?_
        exact⟨_,t,fun Fz hz=>fZ hR H hs htt (by rw[hX'];exact fun b ob q=>.inl (.inr q)) hq (fun a ob q=>hz _ _ (hF _ _ (hkt a ob q))) (by
        intro q hq'
        simp only[List.mem_cons,List.not_mem_nil,or_false] at hq'
        rcases hq' with rfl|rfl|rfl
        ·exact hz _ _ hia
        ·exact hz _ _ (hF _ _ hfw)
        ·exact hz _ _ hfla) (ant Fz hz)⟩)
     |some w0=>
      first
      |(refine gB (pK w.params fr it wl i W ia epi wa epa la epl xt (tvs pr).length k vsi.dropLast vsi (tvs ((x,xt)::pr)) (tvs pl) (tvs pr) x o w0 Z V) fun R hR H hs htt hX'=>?_
        exact⟨_,t,fun Fz hz=>fZ hR H hs htt (by rw[hX'];exact fun b ob q=>.inl (.inr q)) hq (fun a ob q=>hz _ _ (hF _ _ (hkt a ob q))) (by
        intro q hq'
        simp only[List.mem_cons,List.not_mem_nil,or_false] at hq'
        rcases hq' with rfl|rfl|rfl
        ·exact hz _ _ hia
        ·exact hz _ _ (hF _ _ hfw)
        ·exact hz _ _ hfla) (ant Fz hz)⟩)
      |(refine gB (pO w.params fr it wl i W ia epi wa epa la epl xt (tvs pr).length k vsi.dropLast vsi (tvs ((x,xt)::pr)) (tvs pl) (tvs pr) x o w0 x1 Z V) fun R hR H hs htt hX'=>?_
        exact⟨_,t,fun Fz hz=>fZ hR H hs htt (by rw[hX'];exact fun b ob q=>.inl (.inr q)) hq (fun a ob q=>hz _ _ (hF _ _ (hkt a ob q))) (by
        intro q hq'
        simp only[List.mem_cons,List.not_mem_nil,or_false] at hq'
        rcases hq' with rfl|rfl|rfl
        ·exact hz _ _ hia
        ·exact hz _ _ (hF _ _ hfw)
        ·exact hz _ _ hfla) (ant Fz hz)⟩))
  (fun s Fr Z V hF hI=>by
   obtain⟨cur,ia,epi,vsi,items⟩:=s
   refine⟨Z+2,V+0,Nat.le_add_right _ _,fun k t=>?_⟩
   have hnone:wvs[ws.length]?=none:=List.getElem?_eq_none (by lia)
   cases cur with
   |none=>
    refine dh ((rK w.params fr it wl ws.length W ia k Z V).ex) fun R hR H hs htt=>?_
    refine⟨k,t,fun Fz hz=>?_⟩
    have hF2:=hF.trans hz
    refine(iz (F:=Fz) (X:=fun _ _=>False) hR H hs htt (Sub.no _) (fun a o q=>hF2 _ _ (hkt a o q)) (fun _ q=>(nomatch q)) (vm (hF2 _ _ hwl) hnone trivial)).post fun s r=>?_
    exact r.anti (Sub.orL _ _)
   |some w0=>
    refine dh ((rZ w.params fr it wl ws.length W ia k w0 Z V).ex) fun R hR H hs htt=>?_
    refine⟨k,t,fun Fz hz=>?_⟩
    have hF2:=hF.trans hz
    refine(iz (F:=Fz) (X:=fun _ _=>False) hR H hs htt (Sub.no _) (fun a o q=>hF2 _ _ (hkt a o q)) (fun _ q=>(nomatch q)) (vm (hF2 _ _ hwl) hnone trivial)).post fun s r=>?_
    exact r.anti (Sub.orL _ _))
  ws.length 0 (none,ia0,epi0,vsi0,items0) Fn Z V (Nat.zero_add _) hb (Sub.refl _) ⟨hb0,hI0,hit0,rfl,hne0,by lia,fun x hx=>hpos0 x hx⟩
 refine ji h3 fun g1 g2 g3 g4 g5 g6 g7=>?_
 simp only at g1 g2 g3 g4 g5 g6 g7
 rw[List.take_length] at g4
 subst g4
 have hib:ws.length*101≤100*101:=Nat.mul_le_mul_right _ hwn
 exact⟨ia,epi,vsi,cur,X,Z',V',h1,h2,g1,g2,g3,fun x hx=>⟨(g7 x hx).1,by have:=(g7 x hx).2;lia⟩,by lia,g5,fun k=>by
  refine aJ (h4 k fun _=>0) fun k' _ h5=>?_
  exact⟨k',h5⟩⟩
noncomputable def vy (W ia epi:Nat)(vsi:List Value)(X:bw)(Z V:Nat):Ans:=
 ⟨.call (.ref 831) ⟨[.ref W],[]⟩,700,[],.ok (.ret (.ref ia)),[],[],X,[(ia,aa epi vsi)],Z,V⟩
theorem Ei {α:Type}(a b c d:α):[c,a,b,d].Perm [a,b,c,d]:=(List.perm_middle (a:=c) (l₁:=[a,b]) (l₂:=[d])).symm
theorem lQ {Fn:bw}(hkt:Sub (KF w.params) Fn)(W epW:Nat)(was:List Value)(hW:Fn W (aa epW was))(ws:List (List (List Nat)))(hws:All2 (j0 Fn) was ws)(hwp:∀x∈ws,x≠[]∧x.length≤100)(hwn:ws.length≤100)(hne:ws≠[])(Z V:Nat):
  ∃(ia epi:Nat) (vsi:List Value) (X:bw) (Z' V':Nat),Z≤Z'∧aW X Z∧X ia (aa epi vsi)∧All2 (j0 (aj Fn X)) vsi (itemsOf ws)∧(∀x∈itemsOf ws,x≠[]∧x.length≤101)∧(itemsOf ws).length≤20000∧itemsOf ws≠[]∧bu aH w J dr os Fn (vy W ia epi vsi X Z' V') Z V:=by
 refine Classical.byContradiction fun hNN=>?_
 match ws,was,hws,hne with
 |w0::wr,_::wasr,.cons (a:=v0) hv0 hwr,_=>
  refine gw hv0 fun wa epa pw er4 hfw hpw=>?_;subst er4
  have hw0:=hwp w0 (.head _)
  have hpl:pw.length≤100:=by rw[←cJ,hpw];exact hw0.2
  have hpne:pw≠[]:=by intro e;rw[e] at hpw;exact hw0.1 hpw.symm
  refine je (nR (w:=w) (J:=J) (dr:=dr) (os:=os) hkt Z (Z+3) (Z+1) (Z+2) wa epa (tvs pw) hfw (by rw[aG];lia) (dD pw) (Z+4) (V+2)) fun c1 o1 hc1 ho1 hX1 hall1 hans1=>?_
  rcases hc1 with⟨e,_⟩|⟨_,x1,rfl⟩
  ·exact absurd (List.map_eq_nil_iff.mp e) hpne
  rw[hpw] at hall1
  have hin:=xj (G:=aj (aj (aj Fn o1.X) (bG [(Z+2,aa o1.ep o1.vs)])) (bG [(o1.Z+1,aa 0 wasr)])) (fun b o q=>.inl (.inl q)) hall1
  obtain⟨ia,epi,vsi,cur,X,Z',V',h1,h2,h3,h4,h5,h6,h7,h8,h9⟩:=DQ (w:=w) (J:=J) (dr:=dr) (os:=os) (Fn:=aj (aj (aj Fn o1.X) (bG [(Z+2,aa o1.ep o1.vs)])) (bG [(o1.Z+1,aa 0 wasr)])) (hkt.trans fun b o q=>.inl (.inl (.inl q))) Z (o1.Z+2) W (o1.Z+1) 0 wasr (.inr (.head _)) wr (aM (fun b o q=>.inl (.inl (.inl q))) hwr) (fun x hx=>hwp x (.tail _ hx)) (by have:wr.length+1≤100:=hwn;lia) (Z+2) o1.ep o1.vs (.inl (.inr (.head _))) (w0.map fun p=>[p]) hin
   (by intro e;exact hw0.1 (List.map_eq_nil_iff.mp e)) (by rw[List.length_map];have:=hw0.2;lia) (fun x hx=>by
    refine aL (List.mem_map.mp hx) fun p _ er5=>?_;subst er5
    exact⟨by simp,Nat.le_refl _⟩) (Z+2) (o1.Z+3) (o1.V+2) (by lia) (Nat.le_refl _)
  generalize ho:(⟨fun k=>(h9 k).choose,ia,wr.length,X,Z',V'⟩:ItO)=o
  have hloop:∀g,bu aH w J dr os (aj Fn o1.X) (zK w.params Z (o1.Z+2) W (Z+2) o1.ep (o1.Z+1) o1.vs wasr cur o g) (o1.Z+3) (o1.V+2):=fun g=>by
   have hb:bu aH w J dr os (aj (aj (aj Fn o1.X) (bG [(Z+2,aa o1.ep o1.vs)])) (bG [(o1.Z+1,aa 0 wasr)])) ⟨Dz w.params Z (o1.Z+2),800,[(Z,zf (aP (au g 0)) W (Z+2) none),(o1.Z+2,cz (o1.Z+1) 0)],.ok .next,[zf (o.kf (aP (au g 0))) W o.ia cur,jo o.n],[],o.X,[],o.Z,o.V⟩ (o1.Z+3) (o1.V+2):=by
    rw[←ho]
    exact⟨h2,fun _ q=>(nomatch q),fun Fz hF=>(h9 (aP (au g 0))).choose_spec Fz hF⟩
   have h:=fU rfl (fU rfl hb)
   exact ye h (Ei _ _ _ _) (Ei _ _ _ _).symm
  have eo:o.ia=ia∧o.X=X∧o.Z=Z'∧o.V=V':=by rw[←ho];exact⟨rfl,rfl,rfl,rfl⟩
  have hro:∀p∈([(W,aa epW (.ref wa::wasr)),(wa,aa epa (tvs pw))]:Led),Fn p.1 p.2:=fun p hp=>by
   simp only[List.mem_cons,List.not_mem_nil,or_false] at hp
   rcases hp with rfl|rfl
   ·exact hW
   ·exact hfw
  have hb:∀p∈([(Z+2,aa o1.ep o1.vs),(o1.Z+1,aa 0 wasr)]:Led),Z≤p.1:=fun p hp=>by
   simp only[List.mem_cons,List.not_mem_nil,or_false] at hp
   rcases hp with rfl|rfl
   ·show Z≤Z+2;lia
   ·show Z≤o1.Z+1;lia
  have hwrl:=hwr.len
  have ant:∀Fz,Sub Fn Fz→aA aH w J dr os Fz (aX 0 [] W 0 (.ref wa) (bc 14 (cC 900 (dK (JB w.params) (K5 w.params Z (Z+3)) (Z+1) (Z+2)) bz (Z+3) (Z+1) wa (Z+2) (tvs pw).length (some x1) o1) (Z+4) (V+2) (iI 16 (fun g=>[(az g 0,jn (.int 1 (fL (au g 0) 0)) .none)]) W (fun g=>az g 0) wasr (ju 101 (zK w.params Z (o1.Z+2) W (Z+2) o1.ep (o1.Z+1) o1.vs wasr cur o) (o1.Z+3) (o1.V+2) .nil)))):=fun Fz hz=>
   ie (.inl (hz _ _ hW)) (by decide) (by decide) rfl (dO (hans1.mono' hz) (tU (lo:=some 1) (hi:=none) (ep:=epW) (vs:=.ref wa::wasr) (fun _=>.inl (.inl (hz _ _ hW))) (fun g=>⟨_,_,.head _,.int _ _,.none⟩) (by have:wr.length+1≤100:=hwn;show wasr.length+1≤_;lia) (lW _) fun g=>⟨(hloop g).mono' (Sub.mono hz),trivial⟩))
  have hXX:aW (aj o1.X o.X) Z:=by
   rw[eo.2.1]
   exact(hX1.le (by lia)).or (h2.le (by lia))
  have hle:Z≤o.Z:=by rw[eo.2.2.1];lia
  have hans:bu aH w J dr os Fn ⟨.call (.ref 831) ⟨[.ref W],[]⟩,700,[],.ok (.ret (.ref o.ia)),[],[],aj (aj o1.X o.X) (bG [(Z+2,aa o1.ep o1.vs),(o1.Z+1,aa 0 wasr)]),[],o.Z,o.V⟩ Z V:=by
   cases cur with
   |none=>
    refine gB (my w.params W epW wa epa (tvs pw).length (.ref wa::wasr) (tvs pw) wasr o1 x1 o Z V) fun R hR H hs htt hX'=>?_
    exact oh (Fn:=Fn) hR H hs htt hX' (fun b ob q=>q.elim (fun q=>.inl (.inl (.inr q))) .inr) hXX hb hkt hro ant
   |some w0=>
    refine gB (lY w.params W epW wa epa (tvs pw).length (.ref wa::wasr) (tvs pw) wasr o1 x1 o w0 Z V) fun R hR H hs htt hX'=>?_
    exact oh (Fn:=Fn) hR H hs htt hX' (fun b ob q=>q.elim (fun q=>.inl (.inl (.inr q))) .inr) hXX hb hkt hro ant
  rw[eo.1,eo.2.1] at hans
  have hall:Sub (aj (aj (aj (aj Fn o1.X) (bG [(Z+2,aa o1.ep o1.vs)])) (bG [(o1.Z+1,aa 0 wasr)])) X) (aj Fn (aj (aj o1.X X) (bG [(Z+2,aa o1.ep o1.vs),(o1.Z+1,aa 0 wasr)]))):=fun b ob q=>
   q.elim (fun q=>q.elim (fun q=>q.elim (fun q=>q.elim .inl fun q=>.inr (.inl (.inl q))) fun q=>.inr (.inr (G3 q (.head _)))) fun q=>.inr (.inr (G3 q (.tail _ (.head _))))) fun q=>.inr (.inl (.inr q))
  refine hNN ⟨ia,epi,vsi,aj (aj (aj o1.X X) (bG [(Z+2,aa o1.ep o1.vs),(o1.Z+1,aa 0 wasr)])) (bG [(ia,aa epi vsi)]),o.Z,o.V,hle,?_,.inr (.head _),aM (hall.trans fun b ob q=>q.elim .inl fun q=>.inr (.inl q)) h5,h6,h7,h8,?_⟩
  ·refine aW.or hans.1 (aW.frL fun p hp=>?_)
   rw[List.mem_singleton] at hp
   subst hp
   show Z≤ia
   lia
  ·refine⟨?_,fun p hp=>.inr hp,fun Fz hF=>?_⟩
   ·refine aW.or hans.1 (aW.frL fun p hp=>?_)
    rw[List.mem_singleton] at hp
    subst hp
    show Z≤ia
    lia
   ·exact(hans.2.2 Fz hF).post fun s r=>r.anti fun b ob q=>q.elim .inl fun q=>q.elim .inr fun q=>by
     have e:=List.mem_singleton.mp q
     injection e with e1 e2
     subst e1 e2
     exact(hall _ _ h4).elim (fun q=>.inl (hF _ _ q)) .inr
end
end
noncomputable def zX:Str:=nm [115,99,114,105,112,116]
noncomputable def vX:Str:=nm [120]
noncomputable def nO (k:Hk)(t:Tks)(S wa:Nat)(cur:Option (Int×Nat)):Obj:=match cur with
 |none=>nZ iD k 2 [(zX,.ref S),(tE,.ref wa)]
 |some x=>nZ iD k 3 [(zX,.ref S),(tE,.ref wa),(vX,.int x.1 x.2)]
noncomputable def mQ (P:Params)(fr it:Nat):Code:=Jq (stOf P 826 1) it (envOf P 826 fr Im [])
structure WdO where
 kf:Hk→Hk
 n:Nat
 epw:Nat
 vs:List Value
 ep0:Nat
 ps0:List (List Nat×Nat)
 X:bw
 Z:Nat
 V:Nat
noncomputable def zL (P:Params)(fr cw wa sl it S:Nat)(xs:List Value)(cur:Option (Int×Nat))(o:WdO)(g:Led):Ans:=
 ⟨mQ P fr it,800,[(fr,nO (aP (au g 0)) (fun _=>0) S wa none),(cw,aa 0 []),(wa,aa 0 [.ref cw]),(sl,aa 0 xs),(it,cz sl 0)],.ok .next,
  [nO (o.kf (aP (au g 0))) (fun _=>0) S wa cur,aa o.ep0 (tvs o.ps0),aa o.epw o.vs,aa 0 xs,jo o.n],[],o.X,[],o.Z,o.V⟩
theorem Ng P fr it l i S wa epw cw epc xt k vsW pc x Z V:Fa (bh P none 800 84 ul (mQ P fr it) [(fr,nO k (fun _=>0) S wa none),(it,cz l i),(wa,aa epw vsW),(cw,aa epc (tvs pc))] Z V [] (dU 2 it l i (.int x xt) (fc x 8 0 (dC 4 [(wa,aa epw vsW)] wa (.ref cw) (fc x 8 0 (bZ 8 cw epc (tvs pc) (.str (nm [97]) (V+6)) (.nil))))))) 15 (.again (mQ P fr it)) (fun R=>[(fr,nO (ak R 0) (fun _=>0) S wa (some (x,xt))),(it,cz l (i+1)),(wa,aa epw vsW),(cw,aa (aB epc (tvs pc) (.str (nm [97]) (V+6))) (tvs pc++[(.str (nm [97]) (V+6))]))]) (Z+1) (V+16):=⟨by kernel_rfl⟩
theorem NQ P fr it l i S wa epw cw epc xt k vsW pc x Z V:Fa (bh P none 800 84 ul (mQ P fr it) [(fr,nO k (fun _=>0) S wa none),(it,cz l i),(wa,aa epw vsW),(cw,aa epc (tvs pc))] Z V [] (dU 2 it l i (.int x xt) (fc x 8 1 (dC 4 [(wa,aa epw vsW)] wa (.ref cw) (fc x 8 1 (bZ 8 cw epc (tvs pc) (.str (nm [46,46]) (V+7)) (.nil))))))) 15 (.again (mQ P fr it)) (fun R=>[(fr,nO (ak R 0) (fun _=>0) S wa (some (x,xt))),(it,cz l (i+1)),(wa,aa epw vsW),(cw,aa (aB epc (tvs pc) (.str (nm [46,46]) (V+7))) (tvs pc++[(.str (nm [46,46]) (V+7))]))]) (Z+1) (V+16):=⟨by kernel_rfl⟩
theorem rQ P fr it l i S wa epw cw epc xt k vsW pc x Z V:Fa (bh P none 800 44 U3 (mQ P fr it) [(fr,nO k (fun _=>0) S wa none),(it,cz l i),(wa,aa epw vsW),(cw,aa epc (tvs pc))] Z V [] (dU 2 it l i (.int x xt) (fc x 8 2 (bZ 4 wa epw vsW (.ref Z) (.nil))))) 31 (.again (mQ P fr it)) (fun R=>[(fr,nO (ak R 0) (fun _=>0) S wa (some (x,xt))),(it,cz l (i+1)),(wa,aa (aB epw vsW (.ref Z)) (vsW++[.ref Z])),(cw,aa epc (tvs pc)),(Z,aa 0 [])]) (Z+1) (V+4):=⟨by kernel_rfl⟩
theorem Le P fr it l i S wa epw cw epc xt k vsW pc x Z V:Fa (bh P none 800 84 ul (mQ P fr it) [(fr,nO k (fun _=>0) S wa none),(it,cz l i),(wa,aa epw vsW),(cw,aa epc (tvs pc))] Z V [] (dU 2 it l i (.int x xt) (fc x 8 3 (dC 4 [(wa,aa epw vsW)] wa (.ref cw) (fc x 8 3 (bZ 8 cw epc (tvs pc) (.str (nm [98,32,99]) (V+9)) (.nil))))))) 15 (.again (mQ P fr it)) (fun R=>[(fr,nO (ak R 0) (fun _=>0) S wa (some (x,xt))),(it,cz l (i+1)),(wa,aa epw vsW),(cw,aa (aB epc (tvs pc) (.str (nm [98,32,99]) (V+9))) (tvs pc++[(.str (nm [98,32,99]) (V+9))]))]) (Z+1) (V+16):=⟨by kernel_rfl⟩
theorem Od P fr it l i S wa epw cw epc xt k vsW pc x Z V:Fa (bh P none 800 84 ul (mQ P fr it) [(fr,nO k (fun _=>0) S wa none),(it,cz l i),(wa,aa epw vsW),(cw,aa epc (tvs pc))] Z V [] (dU 2 it l i (.int x xt) (fc x 8 4 (dC 4 [(wa,aa epw vsW)] wa (.ref cw) (fc x 8 4 (bZ 8 cw epc (tvs pc) (.str (nm []) (V+10)) (.nil))))))) 15 (.again (mQ P fr it)) (fun R=>[(fr,nO (ak R 0) (fun _=>0) S wa (some (x,xt))),(it,cz l (i+1)),(wa,aa epw vsW),(cw,aa (aB epc (tvs pc) (.str (nm []) (V+10))) (tvs pc++[(.str (nm []) (V+10))]))]) (Z+1) (V+16):=⟨by kernel_rfl⟩
theorem Nf P fr it l i S wa epw cw epc xt k vsW pc x Z V:Fa (bh P none 800 84 ul (mQ P fr it) [(fr,nO k (fun _=>0) S wa none),(it,cz l i),(wa,aa epw vsW),(cw,aa epc (tvs pc))] Z V [] (dU 2 it l i (.int x xt) (fc x 8 5 (dC 4 [(wa,aa epw vsW)] wa (.ref cw) (fc x 8 5 (bZ 8 cw epc (tvs pc) (.str (nm [46]) (V+11)) (.nil))))))) 15 (.again (mQ P fr it)) (fun R=>[(fr,nO (ak R 0) (fun _=>0) S wa (some (x,xt))),(it,cz l (i+1)),(wa,aa epw vsW),(cw,aa (aB epc (tvs pc) (.str (nm [46]) (V+11))) (tvs pc++[(.str (nm [46]) (V+11))]))]) (Z+1) (V+16):=⟨by kernel_rfl⟩
theorem Lf P fr it l i S wa epw cw epc xt k vsW pc x Z V:Fa (bh P none 800 84 ul (mQ P fr it) [(fr,nO k (fun _=>0) S wa none),(it,cz l i),(wa,aa epw vsW),(cw,aa epc (tvs pc))] Z V [] (dU 2 it l i (.int x xt) (fc x 8 6 (dC 4 [(wa,aa epw vsW)] wa (.ref cw) (fc x 8 6 (bZ 8 cw epc (tvs pc) (.str (nm [46,46,46]) (V+12)) (.nil))))))) 15 (.again (mQ P fr it)) (fun R=>[(fr,nO (ak R 0) (fun _=>0) S wa (some (x,xt))),(it,cz l (i+1)),(wa,aa epw vsW),(cw,aa (aB epc (tvs pc) (.str (nm [46,46,46]) (V+12))) (tvs pc++[(.str (nm [46,46,46]) (V+12))]))]) (Z+1) (V+16):=⟨by kernel_rfl⟩
theorem Ld P fr it l i S wa epw cw epc xt k vsW pc x Z V:Fa (bh P none 800 84 ul (mQ P fr it) [(fr,nO k (fun _=>0) S wa none),(it,cz l i),(wa,aa epw vsW),(cw,aa epc (tvs pc))] Z V [] (dU 2 it l i (.int x xt) (fc x 8 7 (dC 4 [(wa,aa epw vsW)] wa (.ref cw) (fc x 8 7 (bZ 8 cw epc (tvs pc) (.str (nm [10,35]) (V+13)) (.nil))))))) 15 (.again (mQ P fr it)) (fun R=>[(fr,nO (ak R 0) (fun _=>0) S wa (some (x,xt))),(it,cz l (i+1)),(wa,aa epw vsW),(cw,aa (aB epc (tvs pc) (.str (nm [10,35]) (V+13))) (tvs pc++[(.str (nm [10,35]) (V+13))]))]) (Z+1) (V+16):=⟨by kernel_rfl⟩
theorem sr P fr it l i S wa epw cw epc k vsW pc Z V:Fa (bh P none 800 8 5501886661120 (mQ P fr it) [(fr,nO k (fun _=>0) S wa none),(it,cz l i),(wa,aa epw vsW),(cw,aa epc (tvs pc))] Z V [] (xK 2 it l i (.nil))) 15 (.done .next) (fun _=>[(fr,nO k (fun _=>0) S wa none),(it,jo i),(wa,aa epw vsW),(cw,aa epc (tvs pc))]++[]) (Z+2) (V+0):=⟨by kernel_rfl⟩
theorem Lh P fr it l i S wa epw cw epc xt k vsW pc x x0 Z V:Fa (bh P none 800 84 ul (mQ P fr it) [(fr,nO k (fun _=>0) S wa (some x0)),(it,cz l i),(wa,aa epw vsW),(cw,aa epc (tvs pc))] Z V [] (dU 2 it l i (.int x xt) (fc x 8 0 (dC 4 [(wa,aa epw vsW)] wa (.ref cw) (fc x 8 0 (bZ 8 cw epc (tvs pc) (.str (nm [97]) (V+6)) (.nil))))))) 15 (.again (mQ P fr it)) (fun R=>[(fr,nO (ak R 0) (fun _=>0) S wa (some (x,xt))),(it,cz l (i+1)),(wa,aa epw vsW),(cw,aa (aB epc (tvs pc) (.str (nm [97]) (V+6))) (tvs pc++[(.str (nm [97]) (V+6))]))]) (Z+1) (V+16):=⟨by kernel_rfl⟩
theorem NB P fr it l i S wa epw cw epc xt k vsW pc x x0 Z V:Fa (bh P none 800 84 ul (mQ P fr it) [(fr,nO k (fun _=>0) S wa (some x0)),(it,cz l i),(wa,aa epw vsW),(cw,aa epc (tvs pc))] Z V [] (dU 2 it l i (.int x xt) (fc x 8 1 (dC 4 [(wa,aa epw vsW)] wa (.ref cw) (fc x 8 1 (bZ 8 cw epc (tvs pc) (.str (nm [46,46]) (V+7)) (.nil))))))) 15 (.again (mQ P fr it)) (fun R=>[(fr,nO (ak R 0) (fun _=>0) S wa (some (x,xt))),(it,cz l (i+1)),(wa,aa epw vsW),(cw,aa (aB epc (tvs pc) (.str (nm [46,46]) (V+7))) (tvs pc++[(.str (nm [46,46]) (V+7))]))]) (Z+1) (V+16):=⟨by kernel_rfl⟩
theorem rC P fr it l i S wa epw cw epc xt k vsW pc x x0 Z V:Fa (bh P none 800 44 U3 (mQ P fr it) [(fr,nO k (fun _=>0) S wa (some x0)),(it,cz l i),(wa,aa epw vsW),(cw,aa epc (tvs pc))] Z V [] (dU 2 it l i (.int x xt) (fc x 8 2 (bZ 4 wa epw vsW (.ref Z) (.nil))))) 31 (.again (mQ P fr it)) (fun R=>[(fr,nO (ak R 0) (fun _=>0) S wa (some (x,xt))),(it,cz l (i+1)),(wa,aa (aB epw vsW (.ref Z)) (vsW++[.ref Z])),(cw,aa epc (tvs pc)),(Z,aa 0 [])]) (Z+1) (V+4):=⟨by kernel_rfl⟩
theorem MJ P fr it l i S wa epw cw epc xt k vsW pc x x0 Z V:Fa (bh P none 800 84 ul (mQ P fr it) [(fr,nO k (fun _=>0) S wa (some x0)),(it,cz l i),(wa,aa epw vsW),(cw,aa epc (tvs pc))] Z V [] (dU 2 it l i (.int x xt) (fc x 8 3 (dC 4 [(wa,aa epw vsW)] wa (.ref cw) (fc x 8 3 (bZ 8 cw epc (tvs pc) (.str (nm [98,32,99]) (V+9)) (.nil))))))) 15 (.again (mQ P fr it)) (fun R=>[(fr,nO (ak R 0) (fun _=>0) S wa (some (x,xt))),(it,cz l (i+1)),(wa,aa epw vsW),(cw,aa (aB epc (tvs pc) (.str (nm [98,32,99]) (V+9))) (tvs pc++[(.str (nm [98,32,99]) (V+9))]))]) (Z+1) (V+16):=⟨by kernel_rfl⟩
theorem Li P fr it l i S wa epw cw epc xt k vsW pc x x0 Z V:Fa (bh P none 800 84 ul (mQ P fr it) [(fr,nO k (fun _=>0) S wa (some x0)),(it,cz l i),(wa,aa epw vsW),(cw,aa epc (tvs pc))] Z V [] (dU 2 it l i (.int x xt) (fc x 8 4 (dC 4 [(wa,aa epw vsW)] wa (.ref cw) (fc x 8 4 (bZ 8 cw epc (tvs pc) (.str (nm []) (V+10)) (.nil))))))) 15 (.again (mQ P fr it)) (fun R=>[(fr,nO (ak R 0) (fun _=>0) S wa (some (x,xt))),(it,cz l (i+1)),(wa,aa epw vsW),(cw,aa (aB epc (tvs pc) (.str (nm []) (V+10))) (tvs pc++[(.str (nm []) (V+10))]))]) (Z+1) (V+16):=⟨by kernel_rfl⟩
theorem Ls P fr it l i S wa epw cw epc xt k vsW pc x x0 Z V:Fa (bh P none 800 84 ul (mQ P fr it) [(fr,nO k (fun _=>0) S wa (some x0)),(it,cz l i),(wa,aa epw vsW),(cw,aa epc (tvs pc))] Z V [] (dU 2 it l i (.int x xt) (fc x 8 5 (dC 4 [(wa,aa epw vsW)] wa (.ref cw) (fc x 8 5 (bZ 8 cw epc (tvs pc) (.str (nm [46]) (V+11)) (.nil))))))) 15 (.again (mQ P fr it)) (fun R=>[(fr,nO (ak R 0) (fun _=>0) S wa (some (x,xt))),(it,cz l (i+1)),(wa,aa epw vsW),(cw,aa (aB epc (tvs pc) (.str (nm [46]) (V+11))) (tvs pc++[(.str (nm [46]) (V+11))]))]) (Z+1) (V+16):=⟨by kernel_rfl⟩
theorem Lb P fr it l i S wa epw cw epc xt k vsW pc x x0 Z V:Fa (bh P none 800 84 ul (mQ P fr it) [(fr,nO k (fun _=>0) S wa (some x0)),(it,cz l i),(wa,aa epw vsW),(cw,aa epc (tvs pc))] Z V [] (dU 2 it l i (.int x xt) (fc x 8 6 (dC 4 [(wa,aa epw vsW)] wa (.ref cw) (fc x 8 6 (bZ 8 cw epc (tvs pc) (.str (nm [46,46,46]) (V+12)) (.nil))))))) 15 (.again (mQ P fr it)) (fun R=>[(fr,nO (ak R 0) (fun _=>0) S wa (some (x,xt))),(it,cz l (i+1)),(wa,aa epw vsW),(cw,aa (aB epc (tvs pc) (.str (nm [46,46,46]) (V+12))) (tvs pc++[(.str (nm [46,46,46]) (V+12))]))]) (Z+1) (V+16):=⟨by kernel_rfl⟩
theorem Mh P fr it l i S wa epw cw epc xt k vsW pc x x0 Z V:Fa (bh P none 800 84 ul (mQ P fr it) [(fr,nO k (fun _=>0) S wa (some x0)),(it,cz l i),(wa,aa epw vsW),(cw,aa epc (tvs pc))] Z V [] (dU 2 it l i (.int x xt) (fc x 8 7 (dC 4 [(wa,aa epw vsW)] wa (.ref cw) (fc x 8 7 (bZ 8 cw epc (tvs pc) (.str (nm [10,35]) (V+13)) (.nil))))))) 15 (.again (mQ P fr it)) (fun R=>[(fr,nO (ak R 0) (fun _=>0) S wa (some (x,xt))),(it,cz l (i+1)),(wa,aa epw vsW),(cw,aa (aB epc (tvs pc) (.str (nm [10,35]) (V+13))) (tvs pc++[(.str (nm [10,35]) (V+13))]))]) (Z+1) (V+16):=⟨by kernel_rfl⟩
theorem rD P fr it l i S wa epw cw epc k vsW pc x0 Z V:Fa (bh P none 800 8 5501886661120 (mQ P fr it) [(fr,nO k (fun _=>0) S wa (some x0)),(it,cz l i),(wa,aa epw vsW),(cw,aa epc (tvs pc))] Z V [] (xK 2 it l i (.nil))) 15 (.done .next) (fun _=>[(fr,nO k (fun _=>0) S wa (some x0)),(it,jo i),(wa,aa epw vsW),(cw,aa epc (tvs pc))]++[]) (Z+2) (V+0):=⟨by kernel_rfl⟩
theorem lZ P S epS n2 xs xs14 o x2 o2 Z V:∃R,bh P none 700 70 SX (.call (.ref 826) ⟨[.ref S],[]⟩) [] Z V [(S,aa epS xs)] (iI 8 (fun g=>[(az g 0,jn .none (.int 14 (fL (au g 0) 1)))]) S (fun g=>az g 0) xs14 (ju 55 (zL P Z (Z+1) (Z+2) (Z+4) (Z+5) S xs14 none o) (Z+6) (V+3) (bc 470 (bF (Z+1,aa o.ep0 (tvs o.ps0)) (bF (Z+2,aa o.epw o.vs) (bF (Z+4,aa 0 xs14) (cC 900 (dK (tV P) (uc P Z (o.Z+2)) o.Z (o.Z+1)) gP (o.Z+2) o.Z (Z+2) (o.Z+1) n2 (some x2) o2)))) (o.Z+3) o.V (.nil))))=R∧vw R 150=(true,true,.done (.ret (.ref (o.Z+1))),[]++[(Z+1,aa o.ep0 (tvs o.ps0)),(Z+2,aa o.epw o.vs),(Z+4,aa 0 xs14),(o.Z+1,aa o2.ep o2.vs)],rights (cH R))∧dw R=o2.Z∧bk R=o2.V∧rF R=(aj (aj (aj (fun _ _=>False) (cQ)) (o.X)) (o2.X)):=⟨_,rfl,by kernel_rfl,by kernel_rfl,by kernel_rfl,by kernel_rfl⟩
theorem mJ P S epS n2 xs xs14 o x2 o2 x0 Z V:∃R,bh P none 700 70 SX (.call (.ref 826) ⟨[.ref S],[]⟩) [] Z V [(S,aa epS xs)] (iI 8 (fun g=>[(az g 0,jn .none (.int 14 (fL (au g 0) 1)))]) S (fun g=>az g 0) xs14 (ju 55 (zL P Z (Z+1) (Z+2) (Z+4) (Z+5) S xs14 (some x0) o) (Z+6) (V+3) (bc 470 (bF (Z+1,aa o.ep0 (tvs o.ps0)) (bF (Z+2,aa o.epw o.vs) (bF (Z+4,aa 0 xs14) (cC 900 (dK (tV P) (uc P Z (o.Z+2)) o.Z (o.Z+1)) gP (o.Z+2) o.Z (Z+2) (o.Z+1) n2 (some x2) o2)))) (o.Z+3) o.V (.nil))))=R∧vw R 150=(true,true,.done (.ret (.ref (o.Z+1))),[]++[(Z+1,aa o.ep0 (tvs o.ps0)),(Z+2,aa o.epw o.vs),(Z+4,aa 0 xs14),(o.Z+1,aa o2.ep o2.vs)],rights (cH R))∧dw R=o2.Z∧bk R=o2.V∧rF R=(aj (aj (aj (fun _ _=>False) (cQ)) (o.X)) (o2.X)):=⟨_,rfl,by kernel_rfl,by kernel_rfl,by kernel_rfl,by kernel_rfl⟩
section
open Builtin Builtin.Str Builtin.Int
noncomputable def menu:List (List Nat):=[[97],[46,46],[],[98,32,99],[],[46],[46,46,46],[10,35]]
noncomputable def bM (x:Int):List Nat:=menu.getD (x.fmod 8).toNat []
noncomputable def bO (s:List (List (List Nat))×List (List Nat))(x:Int):List (List (List Nat))×List (List Nat):=if x.fmod 8=2 then(s.1++[s.2],[]) else(s.1,s.2++[bM x])
noncomputable def iJ (s:List (List (List Nat))×List (List Nat))(xs:List Int):List (List (List Nat)):=(xs.foldl bO s).1++[(xs.foldl bO s).2]
noncomputable def wordsOf (xs:List Int):List (List (List Nat)):=(iJ ([],[]) (xs.take 14)).map fun t=>if t=[] then [[]] else t
noncomputable def dZ (xs:List (Int×Nat)):List Value:=xs.map fun p=>.int p.1 p.2
theorem rE (xs:List (Int×Nat)):(dZ xs).length=xs.length:=List.length_map ..
section
variable {w:World} {J:Array GenState} {dr:Drawn} {os:Osw}
theorem jO.thaw' {lim:Nat}{c:Code}{r:Result}{F G:bw}{led led':Led}{Z V Z' V' b0:Nat}{p:Addr×Obj}(h:jO aH w J dr os lim c (frame F [p]) led Z V r (aj (frame F [p]) G) led' Z' V')(hG:aW G b0)(hlt:p.1<b0):
  jO aH w J dr os lim c F (p::led) Z V r (aj F G) (p::led') Z' V':=by
 intro A hA hU hh s rl Γ q hc hΓ
 refine wpCode_mono (fun r' s' x=>⟨x.1,?_⟩) (h A hA hU hh s rl.cons Γ q hc hΓ)
 have r':=x.2
 refine⟨r'.size,fun b o hx=>?_,fun q hq=>?_,fun q hq o hx=>?_,?_,r'.rest,fun q hq=>?_⟩
 ·rcases hx with hx|hx
  ·exact r'.keep b o (.inl (.inl hx))
  ·exact r'.keep b o (.inr hx)
 ·rcases List.mem_cons.mp hq with e|e
  ·exact r'.keep q.1 q.2 (.inl (.inr (e▸List.mem_singleton.mpr rfl)))
  ·exact r'.own q e
 ·rcases List.mem_cons.mp hq with e|e
  ·subst e
   rcases hx with hx|hx
   ·exact rl.apart q (.head _) o hx
   ·exact absurd (hG _ _ hx) (Nat.not_le_of_lt hlt)
  ·rcases hx with hx|hx
   ·exact r'.apart q e o (.inl (.inl hx))
   ·exact r'.apart q e o (.inr hx)
 ·refine List.nodup_cons.mpr ⟨fun hm=>?_,r'.nd⟩
  refine aL (List.mem_map.mp hm) fun q hq e=>?_
  exact r'.apart q hq p.2 (.inl (.inr (by rw[List.mem_singleton];exact Prod.ext e rfl)))
 ·refine aK (r'.wf q hq) fun h1 h2 h3=>?_
  refine⟨h1,fun o h=>?_,fun hm=>?_⟩
  ·rcases h with h|h
   ·exact h2 o (.inl (.inl h))
   ·exact h2 o (.inr h)
  ·rcases List.mem_cons.mp hm with e|e
   ·exact h2 p.2 (.inl (.inr (by rw[List.mem_singleton];exact Prod.ext e rfl)))
   ·exact h3 e
noncomputable abbrev O9 (k:Hk)(fr it l i S wa epw cw epc:Nat)(vsW:List Value)(pc:List (List Nat×Nat))(cur:Option (Int×Nat)):Led:=[(fr,nO k (fun _=>0) S wa cur),(it,cz l i),(wa,aa epw vsW),(cw,aa epc (tvs pc))]
theorem iG {n h lim:Nat}{ant:Ant}{m l epl:Nat}{xs:List Value}{c c':Code}{led:Led}{Z V Z' V':Nat}{a:Hk→Led}(f:Fa (run w.params lim n h c led Z V [] ant) m (.again c') (fun R=>a (ak R 0)) Z' V')(hq:c'.quiet=true)(hant:∀Fz:bw,Fz l (aa epl xs)→aA aH w J dr os Fz ant):∃k',∀Fz:bw,(∀a o,(ktop w.params).get a=some o→Fz a o)→Fz l (aa epl xs)→jm w J dr os lim c Fz led Z V c' Fz (a k') Z' V':=by
 refine dh f.ex fun R hR H hs htt=>?_
 exact⟨ak R 0,fun Fz ht hl=>(fZ (b:=[]) hR (by rw[List.append_nil];exact H) hs htt (Sub.no _) hq ht (fun _ q=>(nomatch q)) (hant Fz hl)).post fun s r=>r.anti (Sub.orL _ _)⟩
theorem Gd (fr it l epl i S wa epw cw epc:Nat)(k:Hk)(vsW xs:List Value)(pc:List (List Nat×Nat))(cur:Option (Int×Nat))(x:Int)(xt:Nat)(hx:xs[i]?=some (.int x xt))(Z V:Nat)(hlast:vsW.getLast?=some (.ref cw))(hpl:(tvs pc).length≤50000)(h2:x.fmod 8≠2):
  ∃k',∀Fz:bw,(∀a o,(ktop w.params).get a=some o→Fz a o)→Fz l (aa epl xs)→jm w J dr os 800 (mQ w.params fr it) Fz (O9 k fr it l i S wa epw cw epc vsW pc cur) Z V (mQ w.params fr it) Fz (O9 k' fr it l (i+1) S wa epw cw (aB epc (tvs pc) (.str (nm (bM x)) (V+(6+(x.fmod 8).toNat)))) vsW (pc++[(bM x,V+(6+(x.fmod 8).toNat))]) (some (x,xt))) (Z+1) (V+16):=by
 have hq:(mQ w.params fr it).quiet=true:=by kernel_rfl
 have e:x.fmod 8=x%8:=Int.fmod_eq_emod_of_nonneg x (by decide)
 unfold O9
 rw[←iU]
 have h8:x.fmod 8=0∨x.fmod 8=1∨x.fmod 8=3∨x.fmod 8=4∨x.fmod 8=5∨x.fmod 8=6∨x.fmod 8=7:=by lia
 rcases h8 with hr|hr|hr|hr|hr|hr|hr
 ·have hm:bM x=[97]:=by unfold bM;rw[hr];rfl
  rw[hm,hr]
  cases cur with
  |none=>exact iG (Ng w.params fr it l i S wa epw cw epc xt k vsW pc x Z V) hq fun Fz hl=>gO hl hx (dM (by decide) hr (fu (.inr (.head _)) hlast (dM (by decide) hr (eO hpl trivial))))
  |some x0=>exact iG (Lh w.params fr it l i S wa epw cw epc xt k vsW pc x x0 Z V) hq fun Fz hl=>gO hl hx (dM (by decide) hr (fu (.inr (.head _)) hlast (dM (by decide) hr (eO hpl trivial))))
 ·have hm:bM x=[46,46]:=by unfold bM;rw[hr];rfl
  rw[hm,hr]
  cases cur with
  |none=>exact iG (NQ w.params fr it l i S wa epw cw epc xt k vsW pc x Z V) hq fun Fz hl=>gO hl hx (dM (by decide) hr (fu (.inr (.head _)) hlast (dM (by decide) hr (eO hpl trivial))))
  |some x0=>exact iG (NB w.params fr it l i S wa epw cw epc xt k vsW pc x x0 Z V) hq fun Fz hl=>gO hl hx (dM (by decide) hr (fu (.inr (.head _)) hlast (dM (by decide) hr (eO hpl trivial))))
 ·have hm:bM x=[98,32,99]:=by unfold bM;rw[hr];rfl
  rw[hm,hr]
  cases cur with
  |none=>exact iG (Le w.params fr it l i S wa epw cw epc xt k vsW pc x Z V) hq fun Fz hl=>gO hl hx (dM (by decide) hr (fu (.inr (.head _)) hlast (dM (by decide) hr (eO hpl trivial))))
  |some x0=>exact iG (MJ w.params fr it l i S wa epw cw epc xt k vsW pc x x0 Z V) hq fun Fz hl=>gO hl hx (dM (by decide) hr (fu (.inr (.head _)) hlast (dM (by decide) hr (eO hpl trivial))))
 ·have hm:bM x=[]:=by unfold bM;rw[hr];rfl
  rw[hm,hr]
  cases cur with
  |none=>exact iG (Od w.params fr it l i S wa epw cw epc xt k vsW pc x Z V) hq fun Fz hl=>gO hl hx (dM (by decide) hr (fu (.inr (.head _)) hlast (dM (by decide) hr (eO hpl trivial))))
  |some x0=>exact iG (Li w.params fr it l i S wa epw cw epc xt k vsW pc x x0 Z V) hq fun Fz hl=>gO hl hx (dM (by decide) hr (fu (.inr (.head _)) hlast (dM (by decide) hr (eO hpl trivial))))
 ·have hm:bM x=[46]:=by unfold bM;rw[hr];rfl
  rw[hm,hr]
  cases cur with
  |none=>exact iG (Nf w.params fr it l i S wa epw cw epc xt k vsW pc x Z V) hq fun Fz hl=>gO hl hx (dM (by decide) hr (fu (.inr (.head _)) hlast (dM (by decide) hr (eO hpl trivial))))
  |some x0=>exact iG (Ls w.params fr it l i S wa epw cw epc xt k vsW pc x x0 Z V) hq fun Fz hl=>gO hl hx (dM (by decide) hr (fu (.inr (.head _)) hlast (dM (by decide) hr (eO hpl trivial))))
 ·have hm:bM x=[46,46,46]:=by unfold bM;rw[hr];rfl
  rw[hm,hr]
  cases cur with
  |none=>exact iG (Lf w.params fr it l i S wa epw cw epc xt k vsW pc x Z V) hq fun Fz hl=>gO hl hx (dM (by decide) hr (fu (.inr (.head _)) hlast (dM (by decide) hr (eO hpl trivial))))
  |some x0=>exact iG (Lb w.params fr it l i S wa epw cw epc xt k vsW pc x x0 Z V) hq fun Fz hl=>gO hl hx (dM (by decide) hr (fu (.inr (.head _)) hlast (dM (by decide) hr (eO hpl trivial))))
 ·have hm:bM x=[10,35]:=by unfold bM;rw[hr];rfl
  rw[hm,hr]
  cases cur with
  |none=>exact iG (Ld w.params fr it l i S wa epw cw epc xt k vsW pc x Z V) hq fun Fz hl=>gO hl hx (dM (by decide) hr (fu (.inr (.head _)) hlast (dM (by decide) hr (eO hpl trivial))))
  |some x0=>exact iG (Mh w.params fr it l i S wa epw cw epc xt k vsW pc x x0 Z V) hq fun Fz hl=>gO hl hx (dM (by decide) hr (fu (.inr (.head _)) hlast (dM (by decide) hr (eO hpl trivial))))
theorem Jf (fr it l epl i S wa epw cw epc:Nat)(k:Hk)(vsW xs:List Value)(pc:List (List Nat×Nat))(cur:Option (Int×Nat))(x:Int)(xt:Nat)(hx:xs[i]?=some (.int x xt))(Z V:Nat)(hwl:vsW.length≤50000)(h2:x.fmod 8=2):
  ∃k',∀Fz:bw,(∀a o,(ktop w.params).get a=some o→Fz a o)→Fz l (aa epl xs)→jm w J dr os 800 (mQ w.params fr it) Fz (O9 k fr it l i S wa epw cw epc vsW pc cur) Z V (mQ w.params fr it) Fz ((cw,aa epc (tvs pc))::O9 k' fr it l (i+1) S wa (aB epw vsW (.ref Z)) Z 0 (vsW++[.ref Z]) [] (some (x,xt))) (Z+1) (V+4):=by
 have hq:(mQ w.params fr it).quiet=true:=by kernel_rfl
 have hp:∀a b c d e:Addr×Obj,[a,b,c,d,e].Perm (d::[a,b,c,e]):=fun a b c d e=>List.perm_middle (a:=d) (l₁:=[a,b,c]) (l₂:=[e])
 cases cur with
 |none=>
  refine dh ((rQ w.params fr it l i S wa epw cw epc xt k vsW pc x Z V).ex) fun R hR H hs htt=>?_
  exact⟨_,fun Fz ht hl=>(fZ (a:=[_,_,_,_,_]) (b:=[]) hR H hs htt (Sub.no _) hq ht (fun _ q=>(nomatch q)) (gO hl hx (dM (by decide) h2 (eO hwl trivial)))).post fun s r=>(r.anti (Sub.orL _ _)).perm (hp _ _ _ _ _)⟩
 |some x0=>
  refine dh ((rC w.params fr it l i S wa epw cw epc xt k vsW pc x x0 Z V).ex) fun R hR H hs htt=>?_
  exact⟨_,fun Fz ht hl=>(fZ (a:=[_,_,_,_,_]) (b:=[]) hR H hs htt (Sub.no _) hq ht (fun _ q=>(nomatch q)) (gO hl hx (dM (by decide) h2 (eO hwl trivial)))).post fun s r=>(r.anti (Sub.orL _ _)).perm (hp _ _ _ _ _)⟩
theorem Ii (fr it l epl i S wa epw cw epc:Nat)(k:Hk)(vsW xs:List Value)(pc:List (List Nat×Nat))(cur:Option (Int×Nat))(hx:xs[i]?=none)(Z V:Nat):
  ∀Fz:bw,(∀a o,(ktop w.params).get a=some o→Fz a o)→Fz l (aa epl xs)→jO aH w J dr os 800 (mQ w.params fr it) Fz (O9 k fr it l i S wa epw cw epc vsW pc cur) Z V (.ok .next) Fz [(fr,nO k (fun _=>0) S wa cur),(it,jo i),(wa,aa epw vsW),(cw,aa epc (tvs pc))] (Z+2) V:=by
 intro Fz ht hl
 cases cur with
 |none=>
  refine dh ((sr w.params fr it l i S wa epw cw epc k vsW pc Z V).ex) fun R hR H hs htt=>?_
  exact(iz (F:=Fz) (X:=fun _ _=>False) (b:=[]) hR H hs htt (Sub.no _) ht (fun _ q=>(nomatch q)) (vm hl hx trivial)).post fun s r=>r.anti (Sub.orL _ _)
 |some x0=>
  refine dh ((rD w.params fr it l i S wa epw cw epc k vsW pc x0 Z V).ex) fun R hR H hs htt=>?_
  exact(iz (F:=Fz) (X:=fun _ _=>False) (b:=[]) hR H hs htt (Sub.no _) ht (fun _ q=>(nomatch q)) (vm hl hx trivial)).post fun s r=>r.anti (Sub.orL _ _)
theorem qb (s:List (List (List Nat))×List (List Nat))(x:Int)(r:List Int):iJ s (x::r)=iJ (bO s x) r:=rfl
theorem Fp (xs:List (Int×Nat))(i:Nat):(dZ xs)[i]?=(xs[i]?).map fun p=>.int p.1 p.2:=by
 unfold dZ
 rw[List.getElem?_map]
theorem yV (fr it l epl S wa:Nat)(xs:List (Int×Nat))(hxn:xs.length≤100)(base:Nat):∀(d i:Nat) (cur:Option (Int×Nat)) (epw cw epc:Nat) (vs0:List Value) (done:List (List (List Nat))) (pc:List (List Nat×Nat)) (Fr:bw) (Z V:Nat),i+d=xs.length→base≤Z→base≤cw→Sub (KF w.params) Fr→Fr l (aa epl (dZ xs))→All2 (j0 Fr) vs0 done→vs0.length≤i→pc.length≤i→
  ∃(cur':Option (Int×Nat)) (epw':Nat) (vs':List Value) (X:bw) (Z' V':Nat),Z≤Z'∧aW X base∧All2 (j0 (aj Fr X)) vs' (iJ (done,aF pc) ((xs.drop i).map (·.1)))∧∀k,∃k',∀Fz,Sub Fr Fz→
   jO aH w J dr os 800 (mQ w.params fr it) Fz (O9 k fr it l i S wa epw cw epc (vs0++[.ref cw]) pc cur) Z V (.ok .next) (aj Fz X) [(fr,nO k' (fun _=>0) S wa cur'),(it,jo xs.length),(wa,aa epw' vs')] Z' V':=by
 intro d
 induction d with
 |zero=>
  intro i cur epw cw epc vs0 done pc Fr Z V hi hb hbc hkt hl hall hv0 hpc
  have hi:i=xs.length:=hi
  subst hi
  have hn:(dZ xs)[xs.length]?=none:=List.getElem?_eq_none (by rw[rE];exact Nat.le_refl _)
  refine⟨cur,epw,vs0++[.ref cw],bG [(cw,aa epc (tvs pc))],Z+2,V,Nat.le_add_right _ _,aW.frL fun p hp=>?_,?_,fun k=>⟨k,fun Fz hz=>?_⟩⟩
  ·rw[List.mem_singleton] at hp
   subst hp
   exact hbc
  ·rw[List.drop_length]
   exact All2.app (aM (Sub.orL _ _) hall) (.cons ⟨cw,epc,pc,rfl,.inr (.head _),rfl⟩ .nil)
  ·exact(Ii fr it l epl xs.length S wa epw cw epc k (vs0++[.ref cw]) (dZ xs) pc cur hn Z V Fz (fun a o q=>hz _ _ (hkt a o q)) (hz _ _ hl)).post fun s r=>Rel.freeze (a:=[_,_,_]) (b:=[_]) r
 |succ d ih=>
  intro i cur epw cw epc vs0 done pc Fr Z V hi hb hbc hkt hl hall hv0 hpc
  refine Classical.byContradiction fun hNN=>?_
  have hil:i<xs.length:=by lia
  have hxi:(dZ xs)[i]?=some (.int xs[i].1 xs[i].2):=by rw[Fp,List.getElem?_eq_getElem hil];rfl
  have hdr:(xs.drop i).map (·.1)=xs[i].1::(xs.drop (i+1)).map (·.1):=by rw[List.drop_eq_getElem_cons hil];rfl
  generalize hpx:xs[i]=px at hxi hdr
  obtain⟨x,xt⟩:=px
  simp only at hxi hdr
  rw[hdr,qb] at hNN
  by_cases h2:x.fmod 8=2
  ·have hst:bO (done,aF pc) x=(done++[aF pc],aF []):=by unfold bO;rw[if_pos h2];rfl
   rw[hst] at hNN
   refine sV (ih (i+1) (some (x,xt)) (aB epw (vs0++[.ref cw]) (.ref Z)) Z 0 (vs0++[.ref cw]) (done++[aF pc]) [] (aj Fr (bG [(cw,aa epc (tvs pc))])) (Z+1) (V+4) (by lia) (by lia) hb (hkt.trans (Sub.orL _ _)) (.inl hl) (All2.app (aM (Sub.orL _ _) hall) (.cons ⟨cw,epc,pc,rfl,.inr (.head _),rfl⟩ .nil)) (by rw[List.length_append];show vs0.length+1≤_;lia) (Nat.zero_le _)) fun cur' epw' vs' X Z' V' g1 g2 g3 g4=>?_
   refine hNN ⟨cur',epw',vs',aj (bG [(cw,aa epc (tvs pc))]) X,Z',V',by lia,aW.or (aW.frL fun p hp=>?_) g2,by rw[←cX];exact g3,fun k=>?_⟩
   ·rw[List.mem_singleton] at hp
    subst hp
    exact hbc
   ·obtain⟨k1,hj⟩:=Jf (w:=w) (J:=J) (dr:=dr) (os:=os) fr it l epl i S wa epw cw epc k (vs0++[.ref cw]) (dZ xs) pc cur x xt hxi Z V (by rw[List.length_append];show vs0.length+1≤_;lia) h2
    obtain⟨k2,h5⟩:=g4 k1
    refine⟨k2,fun Fz hz=>?_⟩
    rw[←cX]
    refine jm.con (((hj Fz (fun a o q=>hz _ _ (hkt a o q)) (hz _ _ hl)).post fun s r=>Rel.freeze (b:=[_]) (r.perm ?_))) (h5 (aj Fz (bG [(cw,aa epc (tvs pc))])) hz.mono)
    exact List.perm_append_comm (l₁:=[_])
  ·have hst:bO (done,aF pc) x=(done,aF (pc++[(bM x,V+(6+(x.fmod 8).toNat))])):=by unfold bO;rw[if_neg h2,fW]
   rw[hst] at hNN
   refine sV (ih (i+1) (some (x,xt)) epw cw (aB epc (tvs pc) (.str (nm (bM x)) (V+(6+(x.fmod 8).toNat)))) vs0 done (pc++[(bM x,V+(6+(x.fmod 8).toNat))]) Fr (Z+1) (V+16) (by lia) (by lia) hbc hkt hl hall (by lia) (by rw[List.length_append];show pc.length+1≤_;lia)) fun cur' epw' vs' X Z' V' g1 g2 g3 g4=>?_
   refine hNN ⟨cur',epw',vs',X,Z',V',by lia,g2,g3,fun k=>?_⟩
   obtain⟨k1,hj⟩:=Gd (w:=w) (J:=J) (dr:=dr) (os:=os) fr it l epl i S wa epw cw epc k (vs0++[.ref cw]) (dZ xs) pc cur x xt hxi Z V (by rw[List.getLast?_append];rfl) (by rw[aG];lia) h2
   obtain⟨k2,h5⟩:=g4 k1
   exact⟨k2,fun Fz hz=>jm.con (hj Fz (fun a o q=>hz _ _ (hkt a o q)) (hz _ _ hl)) (h5 Fz hz)⟩
theorem BK (fr it l epl S wa cw:Nat)(xs:List (Int×Nat))(hxn:xs.length≤100):∀(d i:Nat) (cur:Option (Int×Nat)) (epw epc:Nat) (pc:List (List Nat×Nat)) (Fr:bw) (Z V:Nat),i+d=xs.length→cw<Z→Sub (KF w.params) Fr→Fr l (aa epl (dZ xs))→pc.length≤i→
  ∃(cur':Option (Int×Nat)) (epw':Nat) (vs':List Value) (ep0:Nat) (ps0:List (List Nat×Nat)) (X:bw) (Z' V':Nat),Z≤Z'∧aW X Z∧All2 (j0 (aj (aj Fr (bG [(cw,aa ep0 (tvs ps0))])) X)) vs' (iJ ([],aF pc) ((xs.drop i).map (·.1)))∧∀k,∃k',∀Fz,Sub Fr Fz→
   jO aH w J dr os 800 (mQ w.params fr it) Fz (O9 k fr it l i S wa epw cw epc [.ref cw] pc cur) Z V (.ok .next) (aj Fz X) [(cw,aa ep0 (tvs ps0)),(fr,nO k' (fun _=>0) S wa cur'),(it,jo xs.length),(wa,aa epw' vs')] Z' V':=by
 intro d
 induction d with
 |zero=>
  intro i cur epw epc pc Fr Z V hi hcw hkt hl hpc
  have hi:i=xs.length:=hi
  subst hi
  have hn:(dZ xs)[xs.length]?=none:=List.getElem?_eq_none (by rw[rE];exact Nat.le_refl _)
  refine⟨cur,epw,[.ref cw],epc,pc,fun _ _=>False,Z+2,V,Nat.le_add_right _ _,aW.none _,?_,fun k=>⟨k,fun Fz hz=>?_⟩⟩
  ·rw[List.drop_length]
   exact .cons ⟨cw,epc,pc,rfl,.inl (.inr (.head _)),rfl⟩ .nil
  ·rw[bJ]
   exact(Ii fr it l epl xs.length S wa epw cw epc k [.ref cw] (dZ xs) pc cur hn Z V Fz (fun a o q=>hz _ _ (hkt a o q)) (hz _ _ hl)).post fun s r=>r.perm (List.perm_append_comm (l₁:=[_,_,_]) (l₂:=[_]))
 |succ d ih=>
  intro i cur epw epc pc Fr Z V hi hcw hkt hl hpc
  refine Classical.byContradiction fun hNN=>?_
  have hil:i<xs.length:=by lia
  have hxi:(dZ xs)[i]?=some (.int xs[i].1 xs[i].2):=by rw[Fp,List.getElem?_eq_getElem hil];rfl
  have hdr:(xs.drop i).map (·.1)=xs[i].1::(xs.drop (i+1)).map (·.1):=by rw[List.drop_eq_getElem_cons hil];rfl
  generalize hpx:xs[i]=px at hxi hdr
  obtain⟨x,xt⟩:=px
  simp only at hxi hdr
  rw[hdr,qb] at hNN
  by_cases h2:x.fmod 8=2
  ·have hst:bO ([],aF pc) x=([aF pc],aF []):=by unfold bO;rw[if_pos h2];rfl
   rw[hst] at hNN
   refine sV (yV (w:=w) (J:=J) (dr:=dr) (os:=os) fr it l epl S wa xs hxn Z d (i+1) (some (x,xt)) (aB epw [.ref cw] (.ref Z)) Z 0 [.ref cw] [aF pc] [] (aj Fr (bG [(cw,aa epc (tvs pc))])) (Z+1) (V+4) (by lia) (by lia) (Nat.le_refl _) (hkt.trans (Sub.orL _ _)) (.inl hl) (.cons ⟨cw,epc,pc,rfl,.inr (.head _),rfl⟩ .nil) (by show 1≤_;lia) (Nat.zero_le _)) fun cur' epw' vs' X Z' V' g1 g2 g3 g4=>?_
   refine hNN ⟨cur',epw',vs',epc,pc,X,Z',V',by lia,g2,g3,fun k=>?_⟩
   obtain⟨k1,hj⟩:=Jf (w:=w) (J:=J) (dr:=dr) (os:=os) fr it l epl i S wa epw cw epc k [.ref cw] (dZ xs) pc cur x xt hxi Z V (by show 1≤_;lia) h2
   obtain⟨k2,h5⟩:=g4 k1
   exact⟨k2,fun Fz hz=>jm.con (hj Fz (fun a o q=>hz _ _ (hkt a o q)) (hz _ _ hl)) (jO.thaw' (h5 (aj Fz (bG [(cw,aa epc (tvs pc))])) hz.mono) g2 hcw)⟩
  ·have hst:bO ([],aF pc) x=([],aF (pc++[(bM x,V+(6+(x.fmod 8).toNat))])):=by unfold bO;rw[if_neg h2,fW]
   rw[hst] at hNN
   refine xM (ih (i+1) (some (x,xt)) epw (aB epc (tvs pc) (.str (nm (bM x)) (V+(6+(x.fmod 8).toNat)))) (pc++[(bM x,V+(6+(x.fmod 8).toNat))]) Fr (Z+1) (V+16) (by lia) (by lia) hkt hl (by rw[List.length_append];show pc.length+1≤_;lia)) fun cur' epw' vs' ep0 ps0 X Z' V' g1 g2 g3 g4=>?_
   refine hNN ⟨cur',epw',vs',ep0,ps0,X,Z',V',by lia,g2.le (by lia),g3,fun k=>?_⟩
   obtain⟨k1,hj⟩:=Gd (w:=w) (J:=J) (dr:=dr) (os:=os) fr it l epl i S wa epw cw epc k [.ref cw] (dZ xs) pc cur x xt hxi Z V rfl (by rw[aG];lia) h2
   obtain⟨k2,h5⟩:=g4 k1
   exact⟨k2,fun Fz hz=>jm.con (hj Fz (fun a o q=>hz _ _ (hkt a o q)) (hz _ _ hl)) (h5 Fz hz)⟩
noncomputable def z6 (S ra ep:Nat)(vs:List Value)(X:bw)(Z V:Nat):Ans:=
 ⟨.call (.ref 826) ⟨[.ref S],[]⟩,700,[],.ok (.ret (.ref ra)),[],[],X,[(ra,aa ep vs)],Z,V⟩
theorem Fv {α:Type}(a b c d e:α):[c,b,e,a,d].Perm [a,b,c,d,e]:=by
 refine((List.perm_middle (a:=c) (l₁:=[a,b]) (l₂:=[d,e])).trans (.cons c ?_)).symm
 refine(List.Perm.swap b a [d,e]).trans (.cons b ?_)
 exact List.perm_append_comm (l₁:=[a,d]) (l₂:=[e])
theorem Cy (xs:List Int):∀s:List (List (List Nat))×List (List Nat),(iJ s xs).length≤s.1.length+xs.length+1:=by
 induction xs with
 |nil=>intro s;show(s.1++[s.2]).length≤_;rw[List.length_append];exact Nat.le_refl _
 |cons x r ih=>
  intro s
  rw[qb]
  have h:=ih (bO s x)
  have h2:(bO s x).1.length≤s.1.length+1:=by
   unfold bO
   split
   ·rw[List.length_append];exact Nat.le_refl _
   ·exact Nat.le_succ _
  rw[List.length_cons]
  lia
theorem Dw (xs:List Int)(s:List (List (List Nat))×List (List Nat)):iJ s xs≠[]:=by
 unfold iJ
 simp
theorem jc {Fn:bw}(hkt:Sub (KF w.params) Fn)(S epS:Nat)(xs:List (Int×Nat))(hS:Fn S (aa epS (dZ xs)))(hxl:xs.length≤1000)(Z V:Nat):
  ∃(ra ep:Nat) (vs:List Value) (X:bw) (Z' V':Nat),Z≤Z'∧aW X Z∧X ra (aa ep vs)∧All2 (j0 (aj Fn X)) vs (wordsOf (xs.map (·.1)))∧bu aH w J dr os Fn (z6 S ra ep vs X Z' V') Z V:=by
 refine Classical.byContradiction fun hNN=>?_
 have htn:dZ (xs.take 14)=(dZ xs).take 14:=by unfold dZ;rw[List.map_take]
 have htl:(xs.take 14).length≤14:=List.length_take_le _ _
 refine xM (BK (w:=w) (J:=J) (dr:=dr) (os:=os) Z (Z+5) (Z+4) 0 S (Z+2) (Z+1) (xs.take 14) (by lia) (xs.take 14).length 0 none 0 0 [] (aj Fn (bG [(Z+4,aa 0 (dZ (xs.take 14)))])) (Z+6) (V+3) (Nat.zero_add _) (by lia) (hkt.trans (Sub.orL _ _)) (.inr (.head _)) (Nat.zero_le _)) fun cur epw vs ep0 ps0 X sz1 tok1 g1 g2 g3 g4=>?_
 rw[List.drop_zero] at g3
 have hraw:All2 (j0 (aj (aj (aj Fn (bG [(Z+4,aa 0 (dZ (xs.take 14)))])) (bG [(Z+1,aa ep0 (tvs ps0))])) X)) vs (iJ ([],[]) ((xs.map (·.1)).take 14)):=by
  rw[←List.map_take]
  exact g3
 generalize ho:(⟨fun k=>(g4 k).choose,(xs.take 14).length,epw,vs,ep0,ps0,X,sz1,tok1⟩:WdO)=o
 have eo:o.vs=vs∧o.X=X∧o.Z=sz1∧o.V=tok1∧o.epw=epw∧o.ep0=ep0∧o.ps0=ps0:=by rw[←ho];exact⟨rfl,rfl,rfl,rfl,rfl,rfl,rfl⟩
 refine ji eo fun e1 e2 e3 e4 e5 e6 e7=>?_
 have hloop:∀g,bu aH w J dr os Fn (zL w.params Z (Z+1) (Z+2) (Z+4) (Z+5) S (dZ (xs.take 14)) cur o g) (Z+6) (V+3):=fun g=>by
  have hb:bu aH w J dr os (aj Fn (bG [(Z+4,aa 0 (dZ (xs.take 14)))])) ⟨mQ w.params Z (Z+5),800,[(Z+1,aa 0 []),(Z,nO (aP (au g 0)) (fun _=>0) S (Z+2) none),(Z+5,cz (Z+4) 0),(Z+2,aa 0 [.ref (Z+1)])],.ok .next,[aa o.ep0 (tvs o.ps0),nO (o.kf (aP (au g 0))) (fun _=>0) S (Z+2) cur,jo o.n,aa o.epw o.vs],[],o.X,[],o.Z,o.V⟩ (Z+6) (V+3):=by
   rw[←ho]
   refine⟨g2,fun _ q=>(nomatch q),fun Fz hF=>?_⟩
   exact((g4 (aP (au g 0))).choose_spec Fz hF).perm' (List.perm_append_comm (l₁:=[_]) (l₂:=[_,_,_])) (List.Perm.refl _)
  have h:=fU rfl hb
  exact ye h (Fv _ _ _ _ _) (Fv _ _ _ _ _).symm
 have hvl:vs.length≤15:=by
  rw[←hraw.len]
  have:=Cy ((xs.map (·.1)).take 14) ([],[])
  have h2:((xs.map (·.1)).take 14).length≤14:=List.length_take_le _ _
  have h3:([]:List (List (List Nat))).length=0:=rfl
  simp only at this
  lia
 have hvne:vs≠[]:=by
  intro e
  have:=hraw.len
  rw[e] at this
  exact Dw _ _ (List.length_eq_zero_iff.mp this)
 obtain⟨c2,o2,hc2,ho2,hX2,hall2,hans2⟩:=JC (w:=w) (J:=J) (dr:=dr) (os:=os) (Fn:=aj (aj (aj (aj Fn X) (bG [(Z+1,aa ep0 (tvs ps0))])) (bG [(Z+2,aa epw vs)])) (bG [(Z+4,aa 0 (dZ (xs.take 14)))])) (hkt.trans fun b o q=>.inl (.inl (.inl (.inl q)))) Z (sz1+2) sz1 (sz1+1) (Z+2) epw vs (.inl (.inr (.head _))) (by lia)
  (ds:=iJ ([],[]) ((xs.map (·.1)).take 14)) (aM (fun b o q=>q.elim (fun q=>q.elim (fun q=>q.elim (fun q=>.inl (.inl (.inl (.inl q)))) .inr) fun q=>.inl (.inl (.inr q))) fun q=>.inl (.inl (.inl (.inr q)))) hraw) (sz1+3) tok1
 rcases hc2 with⟨e,_⟩|⟨_,x2,rfl⟩
 ·exact absurd e hvne
 have ant:∀Fz,Sub Fn Fz→aA aH w J dr os Fz (iI 8 (fun g=>[(az g 0,jn .none (.int 14 (fL (au g 0) 1)))]) S (fun g=>az g 0) (dZ (xs.take 14)) (ju 55 (zL w.params Z (Z+1) (Z+2) (Z+4) (Z+5) S (dZ (xs.take 14)) cur o) (Z+6) (V+3)
   (bc 470 (bF (Z+1,aa o.ep0 (tvs o.ps0)) (bF (Z+2,aa o.epw o.vs) (bF (Z+4,aa 0 (dZ (xs.take 14))) (cC 900 (dK (tV w.params) (uc w.params Z (o.Z+2)) o.Z (o.Z+1)) gP (o.Z+2) o.Z (Z+2) (o.Z+1) vs.length (some x2) o2)))) (o.Z+3) o.V .nil))):=fun Fz hz=>by
  refine tU (lo:=none) (hi:=some 14) (ep:=epS) (vs:=dZ xs) (fun _=>.inl (hz _ _ hS)) (fun g=>⟨_,_,.head _,.none,.int _ _⟩) (by rw[rE];lia) (by rw[htn];exact Hu _ 14) fun g=>⟨(hloop g).mono' hz,?_⟩
  rw[e1,e3,e4,e5,e6,e7]
  refine dO (fU rfl (fU rfl (fU rfl (hans2.mono' ?_)))) trivial
  refine Sub.mono (Sub.mono (Sub.mono ?_))
  show Sub _ (aj Fz o.X)
  rw[e2]
  exact Sub.mono hz
 have hb:∀p∈([(Z+1,aa o.ep0 (tvs o.ps0)),(Z+2,aa o.epw o.vs),(Z+4,aa 0 (dZ (xs.take 14))),(o.Z+1,aa o2.ep o2.vs)]:Led),Z≤p.1:=fun p hp=>by
  simp only[List.mem_cons,List.not_mem_nil,or_false] at hp
  rcases hp with rfl|rfl|rfl|rfl
  ·show Z≤Z+1;lia
  ·show Z≤Z+2;lia
  ·show Z≤Z+4;lia
  ·show Z≤o.Z+1;lia
 have hXX:aW (aj o.X o2.X) Z:=by
  rw[e2]
  exact aW.or (g2.le (by lia)) (hX2.le (by lia))
 have hro:∀p∈([(S,aa epS (dZ xs))]:Led),Fn p.1 p.2:=fun p hp=>by
  rw[List.mem_singleton] at hp
  subst hp
  exact hS
 have hans:bu aH w J dr os Fn ⟨.call (.ref 826) ⟨[.ref S],[]⟩,700,[],.ok (.ret (.ref (o.Z+1))),[],[],aj (aj o.X o2.X) (bG [(Z+1,aa o.ep0 (tvs o.ps0)),(Z+2,aa o.epw o.vs),(Z+4,aa 0 (dZ (xs.take 14))),(o.Z+1,aa o2.ep o2.vs)]),[],o2.Z,o2.V⟩ Z V:=by
  cases cur with
  |none=>
   refine gB (lZ w.params S epS vs.length (dZ xs) (dZ (xs.take 14)) o x2 o2 Z V) fun R hR H hs htt hX'=>?_
   exact oh (Fn:=Fn) hR H hs htt hX' (fun b ob q=>q.elim (fun q=>.inl (.inr q)) .inr) hXX hb hkt hro ant
  |some x0=>
   refine gB (mJ w.params S epS vs.length (dZ xs) (dZ (xs.take 14)) o x2 o2 x0 Z V) fun R hR H hs htt hX'=>?_
   exact oh (Fn:=Fn) hR H hs htt hX' (fun b ob q=>q.elim (fun q=>.inl (.inr q)) .inr) hXX hb hkt hro ant
 refine hNN ⟨o.Z+1,o2.ep,o2.vs,_,o2.Z,o2.V,by lia,hans.1,.inr (.tail _ (.tail _ (.tail _ (.head _)))),?_,qL hans fun p hp=>by
  rw[List.mem_singleton] at hp
  subst hp
  exact .inr (.tail _ (.tail _ (.tail _ (.head _))))⟩
 have hsub:Sub (aj (aj (aj (aj (aj Fn X) (bG [(Z+1,aa ep0 (tvs ps0))])) (bG [(Z+2,aa epw vs)])) (bG [(Z+4,aa 0 (dZ (xs.take 14)))])) o2.X) (aj Fn (aj (aj o.X o2.X) (bG [(Z+1,aa o.ep0 (tvs o.ps0)),(Z+2,aa o.epw o.vs),(Z+4,aa 0 (dZ (xs.take 14))),(o.Z+1,aa o2.ep o2.vs)]))):=by
  rw[e1,e2,e5,e6,e7]
  exact fun b ob q=>q.elim (fun q=>q.elim (fun q=>q.elim (fun q=>q.elim (fun q=>q.elim .inl fun q=>.inr (.inl (.inl q))) fun q=>.inr (.inr (G3 q (.head _)))) fun q=>.inr (.inr (G3 q (.tail _ (.head _))))) fun q=>.inr (.inr (G3 q (.tail _ (.tail _ (.head _)))))) fun q=>.inr (.inl (.inr q))
 have hfl:∀{ds:List (List (List Nat))} {vs:List Value},All2 (fun dd v=>j0 (aj (aj (aj (aj (aj Fn X) (bG [(Z+1,aa ep0 (tvs ps0))])) (bG [(Z+2,aa epw o.vs)])) (bG [(Z+4,aa 0 (dZ (xs.take 14)))])) o2.X) v (if dd=[] then [[]] else dd)) ds vs→All2 (j0 (aj Fn (aj (aj o.X o2.X) (bG [(Z+1,aa o.ep0 (tvs o.ps0)),(Z+2,aa o.epw o.vs),(Z+4,aa 0 (dZ (xs.take 14))),(o.Z+1,aa o2.ep o2.vs)])))) vs (ds.map fun t=>if t=[] then [[]] else t):=fun h=>by
  induction h with
  |nil=>exact .nil
  |cons h _ ih=>exact .cons (h.mono (by rw[e1] at hsub ⊢;exact hsub)) ih
 unfold wordsOf
 refine hfl ?_
 rw[e1]
 exact hall2
end
end
noncomputable def O6:Str:=nm [114,111,111,116]
noncomputable def Ve:Str:=nm [117,112,115]
noncomputable def Ds:Str:=nm [112,108,97,105,110]
noncomputable def Vv:Str:=nm [114,111,119]
noncomputable def XF:Str:=nm [115,104,111,119,110]
noncomputable def Dk (k:Hk)(v:Nat→Value)(ia wa:Nat)(cur:Option (Int×Nat)):Obj:=match cur with
 |none=>nZ iD k 9 [(tE,v 0),(Ea,v 1),(ym,.ref ia),(IV,v 3),(I9,v 4),(O6,v 5),(Ve,v 6),(Ds,v 7),(Vv,.ref wa)]
 |some x=>nZ iD k 10 [(tE,v 0),(Ea,v 1),(ym,.ref ia),(IV,v 3),(I9,v 4),(O6,v 5),(Ve,v 6),(Ds,v 7),(Vv,.ref wa),(vK,.int x.1 x.2)]
noncomputable def Aq (P:Params)(fr it tc mc:Nat):Code:=Jq (stOf P 855 10) it (envOf P 855 fr Ae [(Js,tc),(Ej,mc)])
noncomputable def Gm (lim:Nat)(c:Code)(nm:Str)(d it l acc n:Nat)(cur:Option Value)(o:CompOut)(new:Led):Ans:=⟨c,lim,[(it,cz l 0),(acc,aa 0 []),(d,bQ nm (fun _=>(0,0)) none)],.ok .next,[jo n,aa o.ep o.vs,bQ nm o.kd cur],new,o.X,[],o.Z,o.V⟩
theorem pP P fr it l i ia epi ka epk wa epw cw epc kt xt nr tc mc k (v:Nat→Value) vsi vsk vsW rest pc kI x o x1 la yt y Z V:∃R,bh P none 800 124 VB (Aq P fr it tc mc) [(fr,Dk k v ia wa none),(it,cz l i),(wa,aa epw vsW),(cw,aa epc (tvs pc))] Z V [(ia,aa epi vsi),(ka,aa epk vsk)] (dU 2 it l i (.int kI kt) (dC 4 [(wa,aa epw vsW)] wa (.ref cw) (aX 0 [] ia kI (.ref ka) (aX 0 [] ka 0 (.str (nm x) xt) (bZ 8 cw epc (tvs pc) (.str (nm x) xt) (aX 0 [] ia kI (.ref ka) (iI 16 (fun g=>[(az g 0,jn (.int 1 (fL (au g 0) 0)) .none)]) ka (fun g=>az g 0) rest (bc 480 (bF (Z+1,aa 0 rest) (Gm 900 (dK (Ax P) (Bb P fr (Z+4)) (Z+2) (Z+3)) bz (Z+4) (Z+2) (Z+1) (Z+3) nr (some x1) o [(la,aa 0 [.str (nm y) yt])])) (Z+5) (V+5) (xx 132 wa (Z+3) epw o.ep vsW o.vs (.nil))))))))))=R∧vw R 559=(true,true,.again (Aq P fr it tc mc),[(fr,Dk (ak R 0) v ia wa (some (kI,kt))),(it,cz l (i+1)),(wa,aa (gj epw vsW fun x=>x++(⟨o.vs⟩:Array Value)) (vsW++o.vs)),(cw,aa (aB epc (tvs pc) (.str (nm x) xt)) (tvs pc++[(.str (nm x) xt)])),(Z+1,aa 0 rest),(la,aa 0 [.str (nm y) yt])],rights (cH R))∧dw R=o.Z∧bk R=o.V∧rF R=(aj (aj (aj (aj (aj (aj (aj (aj (aj (fun _ _=>False) (cQ)) (cQ)) (cQ)) (cQ)) (cQ)) (cQ)) (cQ)) (o.X)) (cQ)):=⟨_,rfl,by kernel_rfl,by kernel_rfl,by kernel_rfl,by kernel_rfl⟩
theorem pF P fr it l i ia epi ka epk wa epw cw epc kt xt nr tc mc k (v:Nat→Value) vsi vsk vsW rest pc kI x o Z V:∃R,bh P none 800 120 Tf (Aq P fr it tc mc) [(fr,Dk k v ia wa none),(it,cz l i),(wa,aa epw vsW),(cw,aa epc (tvs pc))] Z V [(ia,aa epi vsi),(ka,aa epk vsk)] (dU 2 it l i (.int kI kt) (dC 4 [(wa,aa epw vsW)] wa (.ref cw) (aX 0 [] ia kI (.ref ka) (aX 0 [] ka 0 (.str (nm x) xt) (bZ 8 cw epc (tvs pc) (.str (nm x) xt) (aX 0 [] ia kI (.ref ka) (iI 16 (fun g=>[(az g 0,jn (.int 1 (fL (au g 0) 0)) .none)]) ka (fun g=>az g 0) rest (bc 480 (bF (Z+1,aa 0 rest) (cC 900 (dK (Ax P) (Bb P fr (Z+4)) (Z+2) (Z+3)) bz (Z+4) (Z+2) (Z+1) (Z+3) nr none o)) (Z+5) (V+5) (xx 132 wa (Z+3) epw o.ep vsW o.vs (.nil))))))))))=R∧vw R 15=(true,true,.again (Aq P fr it tc mc),[(fr,Dk (ak R 0) v ia wa (some (kI,kt))),(it,cz l (i+1)),(wa,aa (gj epw vsW fun x=>x++(⟨o.vs⟩:Array Value)) (vsW++o.vs)),(cw,aa (aB epc (tvs pc) (.str (nm x) xt)) (tvs pc++[(.str (nm x) xt)]))]++[],rights (cH R))∧dw R=o.Z∧bk R=o.V∧rF R=(aj (aj (aj (aj (aj (aj (aj (aj (aj (fun _ _=>False) (cQ)) (cQ)) (cQ)) (cQ)) (cQ)) (cQ)) (cQ)) (o.X)) (cQ)):=⟨_,rfl,by kernel_rfl,by kernel_rfl,by kernel_rfl,by kernel_rfl⟩
theorem qd P fr it l i ia epi ka epk wa epw cw epc kt xt nr tc mc k (v:Nat→Value) vsi vsk vsW rest pc kI x o x0 x1 la yt y Z V:∃R,bh P none 800 124 VB (Aq P fr it tc mc) [(fr,Dk k v ia wa (some x0)),(it,cz l i),(wa,aa epw vsW),(cw,aa epc (tvs pc))] Z V [(ia,aa epi vsi),(ka,aa epk vsk)] (dU 2 it l i (.int kI kt) (dC 4 [(wa,aa epw vsW)] wa (.ref cw) (aX 0 [] ia kI (.ref ka) (aX 0 [] ka 0 (.str (nm x) xt) (bZ 8 cw epc (tvs pc) (.str (nm x) xt) (aX 0 [] ia kI (.ref ka) (iI 16 (fun g=>[(az g 0,jn (.int 1 (fL (au g 0) 0)) .none)]) ka (fun g=>az g 0) rest (bc 480 (bF (Z+1,aa 0 rest) (Gm 900 (dK (Ax P) (Bb P fr (Z+4)) (Z+2) (Z+3)) bz (Z+4) (Z+2) (Z+1) (Z+3) nr (some x1) o [(la,aa 0 [.str (nm y) yt])])) (Z+5) (V+5) (xx 132 wa (Z+3) epw o.ep vsW o.vs (.nil))))))))))=R∧vw R 559=(true,true,.again (Aq P fr it tc mc),[(fr,Dk (ak R 0) v ia wa (some (kI,kt))),(it,cz l (i+1)),(wa,aa (gj epw vsW fun x=>x++(⟨o.vs⟩:Array Value)) (vsW++o.vs)),(cw,aa (aB epc (tvs pc) (.str (nm x) xt)) (tvs pc++[(.str (nm x) xt)])),(Z+1,aa 0 rest),(la,aa 0 [.str (nm y) yt])],rights (cH R))∧dw R=o.Z∧bk R=o.V∧rF R=(aj (aj (aj (aj (aj (aj (aj (aj (aj (fun _ _=>False) (cQ)) (cQ)) (cQ)) (cQ)) (cQ)) (cQ)) (cQ)) (o.X)) (cQ)):=⟨_,rfl,by kernel_rfl,by kernel_rfl,by kernel_rfl,by kernel_rfl⟩
theorem pJ P fr it l i ia epi ka epk wa epw cw epc kt xt nr tc mc k (v:Nat→Value) vsi vsk vsW rest pc kI x o x0 Z V:∃R,bh P none 800 120 Tf (Aq P fr it tc mc) [(fr,Dk k v ia wa (some x0)),(it,cz l i),(wa,aa epw vsW),(cw,aa epc (tvs pc))] Z V [(ia,aa epi vsi),(ka,aa epk vsk)] (dU 2 it l i (.int kI kt) (dC 4 [(wa,aa epw vsW)] wa (.ref cw) (aX 0 [] ia kI (.ref ka) (aX 0 [] ka 0 (.str (nm x) xt) (bZ 8 cw epc (tvs pc) (.str (nm x) xt) (aX 0 [] ia kI (.ref ka) (iI 16 (fun g=>[(az g 0,jn (.int 1 (fL (au g 0) 0)) .none)]) ka (fun g=>az g 0) rest (bc 480 (bF (Z+1,aa 0 rest) (cC 900 (dK (Ax P) (Bb P fr (Z+4)) (Z+2) (Z+3)) bz (Z+4) (Z+2) (Z+1) (Z+3) nr none o)) (Z+5) (V+5) (xx 132 wa (Z+3) epw o.ep vsW o.vs (.nil))))))))))=R∧vw R 15=(true,true,.again (Aq P fr it tc mc),[(fr,Dk (ak R 0) v ia wa (some (kI,kt))),(it,cz l (i+1)),(wa,aa (gj epw vsW fun x=>x++(⟨o.vs⟩:Array Value)) (vsW++o.vs)),(cw,aa (aB epc (tvs pc) (.str (nm x) xt)) (tvs pc++[(.str (nm x) xt)]))]++[],rights (cH R))∧dw R=o.Z∧bk R=o.V∧rF R=(aj (aj (aj (aj (aj (aj (aj (aj (aj (fun _ _=>False) (cQ)) (cQ)) (cQ)) (cQ)) (cQ)) (cQ)) (cQ)) (o.X)) (cQ)):=⟨_,rfl,by kernel_rfl,by kernel_rfl,by kernel_rfl,by kernel_rfl⟩
theorem vo P fr it l i ia wa epw cw epc tc mc k (v:Nat→Value) vsW pc x0 Z V:Fa (bh P none 800 8 5501886661120 (Aq P fr it tc mc) [(fr,Dk k v ia wa (some x0)),(it,cz l i),(wa,aa epw vsW),(cw,aa epc (tvs pc))] Z V [] (xK 2 it l i (.nil))) 15 (.done .next) (fun _=>[(fr,Dk k v ia wa (some x0)),(it,jo i),(wa,aa epw vsW),(cw,aa epc (tvs pc))]++[]) (Z+2) (V+0):=⟨by kernel_rfl⟩
section
open Builtin Builtin.Str Builtin.Int
section
variable {w:World} {J:Array GenState} {dr:Drawn} {os:Osw} {F:bw} {Z V:Nat}
theorem IK {a:Ans}{p:Addr×Obj}(h:bu aH w J dr os (aj F (bG [p])) a Z V):bu aH w J dr os F (bF p a) Z V:=
 ⟨h.1,h.2.1,fun Fz hF=>jO.thaw (h.2.2 (aj Fz (bG [p])) (Sub.mono hF)) h.1⟩
theorem Gn {Fn:bw}(hkt:Sub (KF w.params) Fn)(fr d it acc l epl:Nat)(ps:List (List Nat×Nat))(hl:Fn l (aa epl (tvs ps)))(hn:ps.length≤50000):∀(m i:Nat) (cur:Option Value) (ep:Nat) (vs:List Value) (Fr:bw) (Z V:Nat),i+m+1=ps.length→Sub Fn Fr→vs.length=i→All2 (fun dd v=>j0 Fr v [dd]) ((aF ps).take i) vs→
  ∃(x1:Value) (ep':Nat) (v1:List Value) (la:Nat) (y:List Nat) (yt:Nat) (X:bw) (Z' V':Nat),Z≤Z'∧Z≤la∧la<Z'∧aW X Z∧(aF ps).getLast?=some y∧All2 (fun dd v=>j0 (aj Fr X) v [dd]) (aF ps).dropLast v1∧∀k,∃k',∀Fz,Sub Fr Fz→
   jO aH w J dr os 900 (cI (Ax w.params) (Bb w.params fr d) it acc) Fz (uw bz d it acc l k cur i ep vs) Z V (.ok .next) (aj Fz X) [(d,bQ bz k' (some x1)),(it,jo ps.length),(acc,aa ep' (v1++[.ref la])),(la,aa 0 [.str (nm y) yt])] Z' V':=by
 intro m
 induction m with
 |zero=>
  intro i cur ep vs Fr Z V hi hF hvl hall
  have hil:i<ps.length:=by lia
  have hpi:ps[i]?=some ps[i]:=List.getElem?_eq_getElem hil
  generalize hpx:ps[i]=px at hpi
  obtain⟨y,yt⟩:=px
  have hxi:(tvs ps)[i]?=some (.str (nm y) yt):=by rw[uA,hpi];rfl
  have hlen:vs.length≤50000:=by lia
  have ant:∀Fz,Sub Fr Fz→aA aH w J dr os Fz (dR it l i (.str (nm y) yt) (bZ 4 acc ep vs (.ref Z) (.nil))):=fun Fz hz=>jt (hz _ _ (hF _ _ hl)) hxi (eO hlen trivial)
  have hty:(aF ps)[i]?=some y:=by unfold aF;rw[List.getElem?_map,hpi];rfl
  refine⟨.str (nm y) yt,aB ep vs (.ref Z),vs,Z,y,yt,fun _ _=>False,Z+1+2,V+1,by lia,Nat.le_refl _,by lia,aW.none _,?_,?_,fun k=>?_⟩
  ·rw[List.getLast?_eq_getElem?,cJ]
   have:ps.length-1=i:=by lia
   rw[this]
   exact hty
  ·rw[List.dropLast_eq_take,cJ]
   have:ps.length-1=i:=by lia
   rw[this,bJ]
   exact hall
  ·have fin:∀k,∀Fz,Sub Fr Fz→jO aH w J dr os 900 (cI (Ax w.params) (Bb w.params fr d) it acc) Fz ((Z,aa 0 [.str (nm y) yt])::uw bz d it acc l k (some (.str (nm y) yt)) (i+1) (aB ep vs (.ref Z)) (vs++[.ref Z])) (Z+1) (V+1) (.ok .next) (aj Fz fun _ _=>False) ((Z,aa 0 [.str (nm y) yt])::[(d,bQ bz k (some (.str (nm y) yt))),(it,jo (i+1)),(acc,aa (aB ep vs (.ref Z)) (vs++[.ref Z]))]) (Z+1+2) (V+1):=fun k Fz hz=>by
    have:=cP (J:=J) (dr:=dr) (os:=os) (Fz:=aj Fz (bG [(Z,aa 0 [.str (nm y) yt])])) (Fr:=Fr) hl hkt hF (hz.trans (Sub.orL _ _)) (n:=i+1) (by rw[aG];lia) (Io w.params fr d it acc l (i+1) (aB ep vs (.ref Z)) k (vs++[.ref Z]) (.str (nm y) yt) (Z+1) (V+1))
    refine jO.thaw (G:=fun _ _=>False) ?_ (aW.none _)
    rw[bJ]
    exact this
   have hlast:i+1=ps.length:=by lia
   cases cur with
   |none=>
    refine dh ((qG w.params y yt fr d it acc l i ep k vs Z V).ex) fun R hR H hs ht=>?_
    refine⟨ak R 0,fun Fz hz=>?_⟩
    have hj:=(fZ (w:=w) (J:=J) (dr:=dr) (os:=os) (F:=Fz) (a:=[_,_,_,_]) (b:=[]) hR H hs ht (Sub.no _) rfl (fun a o q=>hz _ _ (hF _ _ (hkt a o q))) (fun _ q=>(nomatch q)) (ant Fz hz)).post fun s r=>(r.anti (Sub.orL _ _)).perm (List.perm_append_comm (l₁:=[_,_,_]) (l₂:=[_]))
    rw[←hlast]
    exact(hj.con (fin _ Fz hz)).perm' (List.Perm.refl _) (List.perm_append_comm (l₁:=[_]) (l₂:=[_,_,_]))
   |some x0=>
    refine dh ((qI w.params y yt fr d it acc l i ep k vs x0 Z V).ex) fun R hR H hs ht=>?_
    refine⟨ak R 0,fun Fz hz=>?_⟩
    have hj:=(fZ (w:=w) (J:=J) (dr:=dr) (os:=os) (F:=Fz) (a:=[_,_,_,_]) (b:=[]) hR H hs ht (Sub.no _) rfl (fun a o q=>hz _ _ (hF _ _ (hkt a o q))) (fun _ q=>(nomatch q)) (ant Fz hz)).post fun s r=>(r.anti (Sub.orL _ _)).perm (List.perm_append_comm (l₁:=[_,_,_]) (l₂:=[_]))
    rw[←hlast]
    exact(hj.con (fin _ Fz hz)).perm' (List.Perm.refl _) (List.perm_append_comm (l₁:=[_]) (l₂:=[_,_,_]))
 |succ m ih=>
  intro i cur ep vs Fr Z V hi hF hvl hall
  refine Classical.byContradiction fun hNN=>?_
  have hil:i<ps.length:=by lia
  have hpi:ps[i]?=some ps[i]:=List.getElem?_eq_getElem hil
  generalize hpx:ps[i]=px at hpi
  obtain⟨y,yt⟩:=px
  have hxi:(tvs ps)[i]?=some (.str (nm y) yt):=by rw[uA,hpi];rfl
  have hty:(aF ps)[i]?=some y:=by unfold aF;rw[List.getElem?_map,hpi];rfl
  have hlen:vs.length≤50000:=by lia
  have ant:∀Fz,Sub Fr Fz→aA aH w J dr os Fz (dR it l i (.str (nm y) yt) (bZ 4 acc ep vs (.ref Z) (.nil))):=fun Fz hz=>jt (hz _ _ (hF _ _ hl)) hxi (eO hlen trivial)
  obtain⟨x1,ep',v1,la,y',yt',X,Z',V',g1,g2,g2',g3,g4,g5,g6⟩:=ih (i+1) (some (.str (nm y) yt)) (aB ep vs (.ref Z)) (vs++[.ref Z]) (aj Fr (aj (fun _ _=>False) (bG [(Z,aa 0 [.str (nm y) yt])]))) (Z+1) (V+1) (by lia) (hF.trans (Sub.orL _ _)) (by rw[List.length_append];show vs.length+1=_;lia) (by
   rw[List.take_add_one,hty]
   exact All2.app (hall.imp fun _ _ h=>h.mono (Sub.orL _ _)) (.cons ⟨Z,0,[(y,yt)],rfl,.inr (.inr (.head _)),rfl⟩ .nil))
  refine hNN ⟨x1,ep',v1,la,y',yt',aj (aj (fun _ _=>False) (bG [(Z,aa 0 [.str (nm y) yt])])) X,Z',V',by lia,by lia,g2',aW.or ((aW.none _).or (aW.frL fun p hp=>by rw[List.mem_singleton] at hp;subst hp;exact Nat.le_refl _)) (g3.le (by lia)),g4,by rw[←cX];exact g5,fun k=>?_⟩
  obtain⟨k1,hj⟩:∃k1,∀Fz,Sub Fr Fz→jm w J dr os 900 (cI (Ax w.params) (Bb w.params fr d) it acc) Fz (uw bz d it acc l k cur i ep vs) Z V (cI (Ax w.params) (Bb w.params fr d) it acc) (aj Fz (aj (fun _ _=>False) (bG [(Z,aa 0 [.str (nm y) yt])]))) (uw bz d it acc l k1 (some (.str (nm y) yt)) (i+1) (aB ep vs (.ref Z)) (vs++[.ref Z])) (Z+1) (V+1):=by
   cases cur with
   |none=>exact dz (qG w.params y yt fr d it acc l i ep k vs Z V) rfl (hkt.trans hF) (fun _ q=>(nomatch q)) ant
   |some x0=>exact dz (qI w.params y yt fr d it acc l i ep k vs x0 Z V) rfl (hkt.trans hF) (fun _ q=>(nomatch q)) ant
  obtain⟨k',h7⟩:=g6 k1
  refine⟨k',fun Fz hz=>?_⟩
  rw[←cX]
  exact(hj Fz hz).con (h7 _ hz.mono)
theorem vd {Fn:bw}(hkt:Sub (KF w.params) Fn)(fr d it acc l epl:Nat)(ps:List (List Nat×Nat))(hl:Fn l (aa epl (tvs ps)))(hn:ps.length≤50000)(hne:ps≠[])(Z V:Nat):
  ∃(x1:Value) (o:CompOut) (v1:List Value) (la:Nat) (y:List Nat) (yt:Nat),Z≤o.Z∧Z≤la∧la<o.Z∧aW o.X Z∧o.vs=v1++[.ref la]∧(aF ps).getLast?=some y∧All2 (fun dd v=>j0 (aj Fn o.X) v [dd]) (aF ps).dropLast v1∧bu aH w J dr os Fn (Gm 900 (dK (Ax w.params) (Bb w.params fr d) it acc) bz d it l acc (tvs ps).length (some x1) o [(la,aa 0 [.str (nm y) yt])]) Z V:=by
 have hpos:=List.length_pos_iff.mpr hne
 refine JN (Gn (w:=w) (J:=J) (dr:=dr) (os:=os) hkt fr d it acc l epl ps hl hn (ps.length-1) 0 none 0 [] Fn Z V (by lia) (Sub.refl _) rfl (by rw[List.take_zero];exact .nil)) fun x1 ep' v1 la y yt X Z' V' g1 g2 g2' g3 g4 g5 g6=>?_
 obtain⟨k',h7⟩:=g6 fun _=>(0,0)
 refine⟨x1,⟨k',ep',v1++[.ref la],X,Z',V'⟩,v1,la,y,yt,g1,g2,g2',g3,rfl,g4,g5,g3,fun _ h=>(nomatch h),fun Fz hz=>?_⟩
 have p3:∀{α:Type} (a b c:α),[b,c,a].Perm [a,b,c]:=fun a b c=>List.perm_append_comm (l₁:=[b,c]) (l₂:=[a])
 rw[aG]
 exact(zm (l:=l) (i:=0) (by kernel_rfl) (.tail _ (.head _)) (h7 Fz hz)).perm' (p3 _ _ _) ((p3 _ _ _).symm.append_right [_])
end
end
section
open Builtin Builtin.Str Builtin.Int
noncomputable def cu (items:List (List (List Nat)))(s:List (List (List Nat))×List (List Nat))(k:Nat):List (List (List Nat))×List (List Nat):=
 match items.getD k [] with
 |[]=>s
 |h::r=>if r=[] then(s.1,s.2++[h]) else(s.1++[s.2++[h]]++r.dropLast.map (fun p=>[p]),[r.getLast?.getD []])
noncomputable def cY (items:List (List (List Nat)))(s:List (List (List Nat))×List (List Nat))(ks:List Nat):List (List (List Nat)):=(ks.foldl (cu items) s).1++[(ks.foldl (cu items) s).2]
theorem lM (items:List (List (List Nat)))(s:List (List (List Nat))×List (List Nat))(x:Nat)(r:List Nat):cY items s (x::r)=cY items (cu items s x) r:=rfl
theorem Gh (xs:List (Nat×Nat))(i:Nat):(dq xs)[i]?=(xs[i]?).map fun p=>.int (p.1:Int) p.2:=by
 unfold dq
 rw[List.getElem?_map]
noncomputable abbrev Oj (k:Hk)(v:Nat→Value)(fr it l i ia wa epw cw epc:Nat)(vsW:List Value)(pc:List (List Nat×Nat))(cur:Option (Int×Nat)):Led:=[(fr,Dk k v ia wa cur),(it,cz l i),(wa,aa epw vsW),(cw,aa epc (tvs pc))]
section
variable {w:World} {J:Array GenState} {dr:Drawn} {os:Osw}
theorem lH {Fr:bw}(hkt:Sub (KF w.params) Fr)(fr it l epl i ia epi wa epw cw epc tc mc:Nat)(v:Nat→Value)(vsW vsi lvs:List Value)(pc pr:List (List Nat×Nat))(cur:Option (Int×Nat))(kn kt ka epk xt:Nat)(x:List Nat)(hl:Fr l (aa epl lvs))(hk:lvs[i]?=some (.int (kn:Int) kt))(hia:Fr ia (aa epi vsi))(hki:vsi[kn]?=some (.ref ka))(hkn:kn≤100000)(hka:Fr ka (aa epk (tvs ((x,xt)::pr))))(hlast:vsW.getLast?=some (.ref cw))(hpl:pc.length≤50000)(hwl:vsW.length≤50000)(hprl:pr.length≤1000)(Z V:Nat)(hpr:pr=[]):
  ∃(epw' Z' V':Nat),Z≤Z'∧∀k,∃k',∀Fz,Sub Fr Fz→jm w J dr os 800 (Aq w.params fr it tc mc) Fz (Oj k v fr it l i ia wa epw cw epc vsW pc cur) Z V (Aq w.params fr it tc mc) Fz (Oj k' v fr it l (i+1) ia wa epw' cw (aB epc (tvs pc) (.str (nm x) xt)) vsW (pc++[(x,xt)]) (some ((kn:Int),kt))) Z' V':=by
 refine Classical.byContradiction fun hNN=>?_
 refine je (mR (w:=w) (J:=J) (dr:=dr) (os:=os) (Fn:=aj Fr (bG [(Z+1,aa 0 (tvs pr))])) (hkt.trans (Sub.orL _ _)) fr (Z+4) (Z+2) (Z+3) (Z+1) 0 (tvs pr) (.inr (.head _)) (by rw[aG];lia) (dD pr) (Z+5) (V+5)) fun c1 o hc1 ho hX hall hans=>?_
 have hov:o.vs=[]:=List.length_eq_zero_iff.mp (by rw[hall.len,cJ,hpr];rfl)
 have hov':vsW++o.vs=vsW:=by rw[hov,List.append_nil]
 rcases hc1 with⟨_,rfl⟩|⟨e,_⟩
 case inr=>exact absurd (by rw[hpr];rfl) e
 have hro:∀Fz,Sub Fr Fz→∀p∈([(ia,aa epi vsi),(ka,aa epk (tvs ((x,xt)::pr)))]:Led),Fz p.1 p.2:=fun Fz hz p hp=>by
  simp only[List.mem_cons,List.not_mem_nil,or_false] at hp
  rcases hp with rfl|rfl
  ·exact hz _ _ hia
  ·exact hz _ _ hka
 have gi:∀{Fz:bw} {kk:Ant},Sub Fr Fz→aA aH w J dr os Fz kk→aA aH w J dr os Fz (aX 0 [] ia (kn:Int) (.ref ka) kk):=fun hz h=>ie (.inl (hz _ _ hia)) (Int.natCast_nonneg kn) (by have e:(2:Int) ^ 63=9223372036854775808:=rfl;rw[e];lia) hki h
 have hq:(Aq w.params fr it tc mc).quiet=true:=by kernel_rfl
 have ant:∀Fz,Sub Fr Fz→aA aH w J dr os Fz (dU 2 it l i (.int (kn:Int) kt) (dC 4 [(wa,aa epw vsW)] wa (.ref cw) (aX 0 [] ia (kn:Int) (.ref ka) (aX 0 [] ka 0 (.str (nm x) xt) (bZ 8 cw epc (tvs pc) (.str (nm x) xt) (aX 0 [] ia (kn:Int) (.ref ka) (iI 16 (fun g=>[(az g 0,jn (.int 1 (fL (au g 0) 0)) .none)]) ka (fun g=>az g 0) (tvs pr) (bc 480 (bF (Z+1,aa 0 (tvs pr)) (cC 900 (dK (Ax w.params) (Bb w.params fr (Z+4)) (Z+2) (Z+3)) bz (Z+4) (Z+2) (Z+1) (Z+3) (tvs pr).length none o)) (Z+5) (V+5) (xx 132 wa (Z+3) epw o.ep vsW o.vs .nil))))))))):=fun Fz hz=>
  gO (hz _ _ hl) hk (fu (.inr (.head _)) hlast (gi hz (ie (.inl (hz _ _ hka)) (by decide) (by decide) rfl (eO (by rw[aG];lia) (gi hz (tU (lo:=some 1) (hi:=none) (ep:=epk) (vs:=tvs ((x,xt)::pr)) (fun _=>.inl (hz _ _ hka)) (fun g=>⟨_,_,.head _,.int _ _,.none⟩) (by rw[aG];show pr.length+1≤_;lia) (lW _) (dO (fU rfl (hans.mono' (Sub.mono hz))) (JD (by rw[hov];show vsW.length+0≤_;lia) trivial))))))))
 refine hNN ⟨gj epw vsW fun x=>x++(⟨o.vs⟩:Array Value),o.Z,o.V,by lia,fun k=>?_⟩
 clear hNN
 unfold Oj
 rw[←iU]
 cases cur with
 |none=>
  refine gB (pF w.params fr it l i ia epi ka epk wa epw cw epc kt xt (tvs pr).length tc mc k v vsi (tvs ((x,xt)::pr)) vsW (tvs pr) pc (kn:Int) x o Z V) fun R hR H hs htt hX'=>?_
  rw[hov'] at H
  exact⟨ak R 0,fun Fz hz=>(fZ (b:=[]) hR H hs htt (Sub.no _) hq (fun a ob q=>hz _ _ (hkt a ob q)) (hro Fz hz) (ant Fz hz)).post fun s r=>r.anti (Sub.orL _ _)⟩
 |some x0=>
  refine gB (pJ w.params fr it l i ia epi ka epk wa epw cw epc kt xt (tvs pr).length tc mc k v vsi (tvs ((x,xt)::pr)) vsW (tvs pr) pc (kn:Int) x o x0 Z V) fun R hR H hs htt hX'=>?_
  rw[hov'] at H
  exact⟨ak R 0,fun Fz hz=>(fZ (b:=[]) hR H hs htt (Sub.no _) hq (fun a ob q=>hz _ _ (hkt a ob q)) (hro Fz hz) (ant Fz hz)).post fun s r=>r.anti (Sub.orL _ _)⟩
theorem Eo {α:Type}(a b c d e f:α):[a,b,c,d,e,f].Perm ([d,a,b,c,f]++[e]):=by
 refine(List.perm_middle (a:=d) (l₁:=[a,b,c]) (l₂:=[e,f])).trans (.cons d ?_)
 exact .cons a (.cons b (.cons c (List.Perm.swap f e [])))
theorem nF {Fr:bw}(hkt:Sub (KF w.params) Fr)(fr it l epl i ia epi wa epw cw epc tc mc:Nat)(v:Nat→Value)(vsW vsi lvs:List Value)(pc pr:List (List Nat×Nat))(cur:Option (Int×Nat))(kn kt ka epk xt:Nat)(x:List Nat)(hl:Fr l (aa epl lvs))(hk:lvs[i]?=some (.int (kn:Int) kt))(hia:Fr ia (aa epi vsi))(hki:vsi[kn]?=some (.ref ka))(hkn:kn≤100000)(hka:Fr ka (aa epk (tvs ((x,xt)::pr))))(hlast:vsW.getLast?=some (.ref cw))(hpl:pc.length≤50000)(hwl:vsW.length≤50000)(hprl:pr.length≤1000)(Z V:Nat)(hpr:pr≠[]):
  ∃(epw' la yt:Nat) (y:List Nat) (v1:List Value) (X:bw) (Z' V':Nat),Z≤Z'∧Z≤la∧la<Z'∧aW X Z∧(aF pr).getLast?=some y∧v1.length+1=pr.length∧All2 (j0 (aj Fr X)) v1 ((aF pr).dropLast.map fun p=>[p])∧∀k,∃k',∀Fz,Sub Fr Fz→
   jm w J dr os 800 (Aq w.params fr it tc mc) Fz (Oj k v fr it l i ia wa epw cw epc vsW pc cur) Z V (Aq w.params fr it tc mc) (aj Fz X) ((cw,aa (aB epc (tvs pc) (.str (nm x) xt)) (tvs (pc++[(x,xt)])))::Oj k' v fr it l (i+1) ia wa epw' la 0 (vsW++(v1++[.ref la])) [(y,yt)] (some ((kn:Int),kt))) Z' V':=by
 refine Classical.byContradiction fun hNN=>?_
 refine OD (vd (w:=w) (J:=J) (dr:=dr) (os:=os) (Fn:=aj Fr (bG [(Z+1,aa 0 (tvs pr))])) (hkt.trans (Sub.orL _ _)) fr (Z+4) (Z+2) (Z+3) (Z+1) 0 pr (.inr (.head _)) (by lia) hpr (Z+5) (V+5)) fun x1 o v1 la y yt g1 g2 g2' g3 g4 g5 g6 hans=>?_
 have hv1:v1.length+1=pr.length:=by
  have:=g6.len
  rw[List.length_dropLast,cJ] at this
  have:=List.length_pos_iff.mpr hpr
  lia
 have hro:∀Fz,Sub Fr Fz→∀p∈([(ia,aa epi vsi),(ka,aa epk (tvs ((x,xt)::pr)))]:Led),Fz p.1 p.2:=fun Fz hz p hp=>by
  simp only[List.mem_cons,List.not_mem_nil,or_false] at hp
  rcases hp with rfl|rfl
  ·exact hz _ _ hia
  ·exact hz _ _ hka
 have gi:∀{Fz:bw} {kk:Ant},Sub Fr Fz→aA aH w J dr os Fz kk→aA aH w J dr os Fz (aX 0 [] ia (kn:Int) (.ref ka) kk):=fun hz h=>ie (.inl (hz _ _ hia)) (Int.natCast_nonneg kn) (by have e:(2:Int) ^ 63=9223372036854775808:=rfl;rw[e];lia) hki h
 have hq:(Aq w.params fr it tc mc).quiet=true:=by kernel_rfl
 have ant:∀Fz,Sub Fr Fz→aA aH w J dr os Fz (dU 2 it l i (.int (kn:Int) kt) (dC 4 [(wa,aa epw vsW)] wa (.ref cw) (aX 0 [] ia (kn:Int) (.ref ka) (aX 0 [] ka 0 (.str (nm x) xt) (bZ 8 cw epc (tvs pc) (.str (nm x) xt) (aX 0 [] ia (kn:Int) (.ref ka) (iI 16 (fun g=>[(az g 0,jn (.int 1 (fL (au g 0) 0)) .none)]) ka (fun g=>az g 0) (tvs pr) (bc 480 (bF (Z+1,aa 0 (tvs pr)) (Gm 900 (dK (Ax w.params) (Bb w.params fr (Z+4)) (Z+2) (Z+3)) bz (Z+4) (Z+2) (Z+1) (Z+3) (tvs pr).length (some x1) o [(la,aa 0 [.str (nm y) yt])])) (Z+5) (V+5) (xx 132 wa (Z+3) epw o.ep vsW o.vs .nil))))))))):=fun Fz hz=>
  gO (hz _ _ hl) hk (fu (.inr (.head _)) hlast (gi hz (ie (.inl (hz _ _ hka)) (by decide) (by decide) rfl (eO (by rw[aG];lia) (gi hz (tU (lo:=some 1) (hi:=none) (ep:=epk) (vs:=tvs ((x,xt)::pr)) (fun _=>.inl (hz _ _ hka)) (fun g=>⟨_,_,.head _,.int _ _,.none⟩) (by rw[aG];show pr.length+1≤_;lia) (lW _) (dO (IK (hans.mono' (Sub.mono hz))) (JD (by rw[g4,List.length_append];show vsW.length+(v1.length+1)≤_;lia) trivial))))))))
 refine hNN ⟨gj epw vsW fun x=>x++(⟨o.vs⟩:Array Value),la,yt,y,v1,aj o.X (bG [(Z+1,aa 0 (tvs pr))]),o.Z,o.V,by lia,by lia,g2',aW.or (g3.le (by lia)) (aW.frL fun p hp=>?_),g5,hv1,xj (fun b ob q=>q.elim (fun q=>q.elim .inl fun q=>.inr (.inr q)) fun q=>.inr (.inl q)) g6,fun k=>?_⟩
 clear hNN
 ·rw[List.mem_singleton] at hp
  subst hp
  show Z≤Z+1
  lia
 rw[←iU,←g4]
 cases cur with
 |none=>
  refine gB (pP w.params fr it l i ia epi ka epk wa epw cw epc kt xt (tvs pr).length tc mc k v vsi (tvs ((x,xt)::pr)) vsW (tvs pr) pc (kn:Int) x o x1 la yt y Z V) fun R hR H hs htt hX'=>?_
  refine⟨ak R 0,fun Fz hz=>(fZ (a:=[_,_,_,_,_,_]) (b:=[]) (X:=o.X) hR H hs htt (by rw[hX'];exact fun b ob q=>.inl (.inr q)) hq (fun a ob q=>hz _ _ (hkt a ob q)) (hro Fz hz) (ant Fz hz)).post fun s r=>?_⟩
  exact(Rel.freeze (b:=[_]) (r.perm (Eo _ _ _ _ _ _))).anti fun b ob q=>q.elim (fun q=>.inl (.inl q)) fun q=>q.elim (fun q=>.inl (.inr (.inl q))) .inr
 |some x0=>
  refine gB (qd w.params fr it l i ia epi ka epk wa epw cw epc kt xt (tvs pr).length tc mc k v vsi (tvs ((x,xt)::pr)) vsW (tvs pr) pc (kn:Int) x o x0 x1 la yt y Z V) fun R hR H hs htt hX'=>?_
  refine⟨ak R 0,fun Fz hz=>(fZ (a:=[_,_,_,_,_,_]) (b:=[]) (X:=o.X) hR H hs htt (by rw[hX'];exact fun b ob q=>.inl (.inr q)) hq (fun a ob q=>hz _ _ (hkt a ob q)) (hro Fz hz) (ant Fz hz)).post fun s r=>?_⟩
  exact(Rel.freeze (b:=[_]) (r.perm (Eo _ _ _ _ _ _))).anti fun b ob q=>q.elim (fun q=>.inl (.inl q)) fun q=>q.elim (fun q=>.inl (.inr (.inl q))) .inr
theorem I6 (fr it l epl i ia wa epw cw epc tc mc:Nat)(k:Hk)(v:Nat→Value)(vsW lvs:List Value)(pc:List (List Nat×Nat))(x0:Int×Nat)(hx:lvs[i]?=none)(Z V:Nat):
  ∀Fz:bw,(∀a o,(ktop w.params).get a=some o→Fz a o)→Fz l (aa epl lvs)→jO aH w J dr os 800 (Aq w.params fr it tc mc) Fz (Oj k v fr it l i ia wa epw cw epc vsW pc (some x0)) Z V (.ok .next) Fz [(fr,Dk k v ia wa (some x0)),(it,jo i),(wa,aa epw vsW),(cw,aa epc (tvs pc))] (Z+2) V:=by
 intro Fz ht hl
 refine dh ((vo w.params fr it l i ia wa epw cw epc tc mc k v vsW pc x0 Z V).ex) fun R hR H hs htt=>?_
 exact(iz (F:=Fz) (X:=fun _ _=>False) (b:=[]) hR H hs htt (Sub.no _) ht (fun _ q=>(nomatch q)) (vm hl hx trivial)).post fun s r=>r.anti (Sub.orL _ _)
theorem yP (fr it l epl ia epi wa tc mc:Nat)(v:Nat→Value)(vsi:List Value)(items:List (List (List Nat)))(hpos:∀x∈items,x≠[]∧x.length≤40)(hin:items.length≤2000)(ls:List (Nat×Nat))(hln:ls.length≤1000)(hks:∀p∈ls,p.1<items.length)(base:Nat):∀(d i:Nat) (x0:Int×Nat) (epw cw epc:Nat) (vs0:List Value) (done:List (List (List Nat))) (pc:List (List Nat×Nat)) (Fr:bw) (Z V:Nat),i+d=ls.length→base≤Z→base≤cw→Sub (KF w.params) Fr→Fr l (aa epl (dq ls))→Fr ia (aa epi vsi)→All2 (j0 Fr) vsi items→All2 (j0 Fr) vs0 done→vs0.length≤i*40→pc.length≤i+1→
  ∃(x':Int×Nat) (epw':Nat) (vs':List Value) (X:bw) (Z' V':Nat),Z≤Z'∧aW X base∧All2 (j0 (aj Fr X)) vs' (cY items (done,aF pc) ((ls.drop i).map (·.1)))∧∀k,∃k',∀Fz,Sub Fr Fz→
   jO aH w J dr os 800 (Aq w.params fr it tc mc) Fz (Oj k v fr it l i ia wa epw cw epc (vs0++[.ref cw]) pc (some x0)) Z V (.ok .next) (aj Fz X) [(fr,Dk k' v ia wa (some x')),(it,jo ls.length),(wa,aa epw' vs')] Z' V':=by
 intro d
 induction d with
 |zero=>
  intro i x0 epw cw epc vs0 done pc Fr Z V hi hb hbc hkt hl hia hits hall hv0 hpc
  have hi:i=ls.length:=hi
  subst hi
  have hn:(dq ls)[ls.length]?=none:=List.getElem?_eq_none (by rw[fB];exact Nat.le_refl _)
  refine⟨x0,epw,vs0++[.ref cw],bG [(cw,aa epc (tvs pc))],Z+2,V,Nat.le_add_right _ _,aW.frL fun p hp=>?_,?_,fun k=>⟨k,fun Fz hz=>?_⟩⟩
  ·rw[List.mem_singleton] at hp
   subst hp
   exact hbc
  ·rw[List.drop_length]
   exact All2.app (aM (Sub.orL _ _) hall) (.cons ⟨cw,epc,pc,rfl,.inr (.head _),rfl⟩ .nil)
  ·exact(I6 fr it l epl ls.length ia wa epw cw epc tc mc k v (vs0++[.ref cw]) (dq ls) pc x0 hn Z V Fz (fun a o q=>hz _ _ (hkt a o q)) (hz _ _ hl)).post fun s r=>Rel.freeze (a:=[_,_,_]) (b:=[_]) r
 |succ d ih=>
  intro i x0 epw cw epc vs0 done pc Fr Z V hi hb hbc hkt hl hia hits hall hv0 hpc
  refine Classical.byContradiction fun hNN=>?_
  have hil:i<ls.length:=by lia
  have hxi:(dq ls)[i]?=some (.int (ls[i].1:Int) ls[i].2):=by rw[Gh,List.getElem?_eq_getElem hil];rfl
  have hdr:(ls.drop i).map (·.1)=ls[i].1::(ls.drop (i+1)).map (·.1):=by rw[List.drop_eq_getElem_cons hil];rfl
  have hkl:=hks _ (List.getElem_mem hil)
  generalize hpx:ls[i]=px at hxi hdr hkl
  obtain⟨kn,kt⟩:=px
  simp only at hxi hdr hkl
  rw[hdr,lM] at hNN
  have hvi:=hits.len
  have hvk:vsi[kn]?=some (vsi[kn]'(by lia)):=List.getElem?_eq_getElem _
  obtain⟨item,hitem,ka,epk,pk,hv,hfk,hpk⟩:=hits.get hvk
  rw[hv] at hvk
  have hgd:items.getD kn []=aF pk:=by rw[List.getD_eq_getElem?_getD,hitem,hpk];rfl
  have hpp:=hpos item (List.mem_of_getElem? hitem)
  rw[←hpk] at hpp
  rw[cJ] at hpp
  match pk,hpp,hgd,hfk with
  |(x,xt)::pr,hpp,hgd,hfk=>
  have hpr:pr.length+1≤40:=hpp.2
  have hib:i*40≤1000*40:=Nat.mul_le_mul_right _ (by lia)
  have hi1:(i+1)*40=i*40+40:=by rw[Nat.add_mul]
  by_cases h2:pr=[]
  ·have hst:cu items (done,aF pc) kn=(done,aF (pc++[(x,xt)])):=by
    unfold cu
    rw[hgd,h2,fW]
    rfl
   rw[hst] at hNN
   refine du (lH (w:=w) (J:=J) (dr:=dr) (os:=os) hkt fr it l epl i ia epi wa epw cw epc tc mc v (vs0++[.ref cw]) vsi (dq ls) pc pr (some x0) kn kt ka epk xt x hl hxi hia hvk (by lia) hfk (by rw[List.getLast?_append];rfl) (by lia) (by rw[List.length_append];show vs0.length+1≤_;lia) (by lia) Z V h2) fun epw1 sz1 tok1 g1 hj=>?_
   refine sV (ih (i+1) ((kn:Int),kt) epw1 cw (aB epc (tvs pc) (.str (nm x) xt)) vs0 done (pc++[(x,xt)]) Fr sz1 tok1 (by lia) (by lia) hbc hkt hl hia hits hall (by lia) (by rw[List.length_append];show pc.length+1≤_;lia)) fun x' epw' vs' X Z' V' k1 k2 k3 k4=>?_
   refine hNN ⟨x',epw',vs',X,Z',V',by lia,k2,k3,fun k=>?_⟩
   obtain⟨ka1,h5⟩:=hj k
   obtain⟨ka2,h6⟩:=k4 ka1
   exact⟨ka2,fun Fz hz=>(h5 Fz hz).con (h6 Fz hz)⟩
  ·refine J7 (nF (w:=w) (J:=J) (dr:=dr) (os:=os) hkt fr it l epl i ia epi wa epw cw epc tc mc v (vs0++[.ref cw]) vsi (dq ls) pc pr (some x0) kn kt ka epk xt x hl hxi hia hvk (by lia) hfk (by rw[List.getLast?_append];rfl) (by lia) (by rw[List.length_append];show vs0.length+1≤_;lia) (by lia) Z V h2) fun epw1 la yt y v1 X1 sz1 tok1 g1 g2 g2' g3 g5 g6 g7 hj=>?_
   have hst:cu items (done,aF pc) kn=(done++[aF (pc++[(x,xt)])]++(aF pr).dropLast.map (fun p=>[p]),aF [(y,yt)]):=by
    have hne:aF pr≠[]:=fun e=>h2 (List.map_eq_nil_iff.mp e)
    unfold cu
    rw[hgd]
    show(if aF pr=[] then _ else(done++[aF pc++[x]]++(aF pr).dropLast.map (fun p=>[p]),[(aF pr).getLast?.getD []]))=_
    rw[if_neg hne,g5,fW]
    rfl
   rw[hst] at hNN
   refine sV (ih (i+1) ((kn:Int),kt) epw1 la 0 (vs0++[.ref cw]++v1) (done++[aF (pc++[(x,xt)])]++(aF pr).dropLast.map (fun p=>[p])) [(y,yt)] (aj (aj Fr X1) (bG [(cw,aa (aB epc (tvs pc) (.str (nm x) xt)) (tvs (pc++[(x,xt)])))])) sz1 tok1 (by lia) (by lia) (by lia) (hkt.trans fun b o q=>.inl (.inl q)) (.inl (.inl hl)) (.inl (.inl hia)) (aM (fun b o q=>.inl (.inl q)) hits) (All2.app (All2.app (aM (fun b o q=>.inl (.inl q)) hall) (.cons ⟨cw,_,pc++[(x,xt)],rfl,.inr (.head _),rfl⟩ .nil)) (aM (Sub.orL _ _) g7)) (by rw[List.length_append,List.length_append];show vs0.length+1+v1.length≤_;lia) (by show 1≤_;lia)) fun x' epw' vs' X Z' V' k1 k2 k3 k4=>?_
   refine hNN ⟨x',epw',vs',aj (aj X1 (bG [(cw,aa (aB epc (tvs pc) (.str (nm x) xt)) (tvs (pc++[(x,xt)])))])) X,Z',V',by lia,aW.or (aW.or (g3.le hb) (aW.frL fun p hp=>?_)) k2,by rw[←cX,←cX];exact k3,fun k=>?_⟩
   ·rw[List.mem_singleton] at hp
    subst hp
    exact hbc
   ·obtain⟨ka1,h5⟩:=hj k
    obtain⟨ka2,h6⟩:=k4 ka1
    refine⟨ka2,fun Fz hz=>?_⟩
    rw[←cX,←cX]
    have h7:=h6 (aj (aj Fz X1) (bG [(cw,aa (aB epc (tvs pc) (.str (nm x) xt)) (tvs (pc++[(x,xt)])))])) (Sub.mono (Sub.mono hz))
    rw[List.append_assoc (vs0++[Value.ref cw]) v1] at h7
    exact jm.con ((h5 Fz hz).post fun s r=>Rel.freeze (b:=[_]) (r.perm (List.perm_append_comm (l₁:=[_])))) h7
theorem BV (fr it l epl ia epi wa tc mc:Nat)(v:Nat→Value)(vsi:List Value)(items:List (List (List Nat)))(hpos:∀x∈items,x≠[]∧x.length≤40)(hin:items.length≤2000)(ls:List (Nat×Nat))(hln:ls.length≤1000)(hks:∀p∈ls,p.1<items.length)(hlne:ls≠[])(cw:Nat):∀(d i:Nat) (cur:Option (Int×Nat)) (epw epc:Nat) (pc:List (List Nat×Nat)) (Fr:bw) (Z V:Nat),i+d=ls.length→(cur=none→i=0)→cw<Z→Sub (KF w.params) Fr→Fr l (aa epl (dq ls))→Fr ia (aa epi vsi)→All2 (j0 Fr) vsi items→pc.length≤i+1→
  ∃(x':Int×Nat) (epw':Nat) (vs':List Value) (ep0:Nat) (ps0:List (List Nat×Nat)) (X:bw) (Z' V':Nat),Z≤Z'∧aW X Z∧All2 (j0 (aj (aj Fr (bG [(cw,aa ep0 (tvs ps0))])) X)) vs' (cY items ([],aF pc) ((ls.drop i).map (·.1)))∧∀k,∃k',∀Fz,Sub Fr Fz→
   jO aH w J dr os 800 (Aq w.params fr it tc mc) Fz (Oj k v fr it l i ia wa epw cw epc [.ref cw] pc cur) Z V (.ok .next) (aj Fz X) [(cw,aa ep0 (tvs ps0)),(fr,Dk k' v ia wa (some x')),(it,jo ls.length),(wa,aa epw' vs')] Z' V':=by
 intro d
 induction d with
 |zero=>
  intro i cur epw epc pc Fr Z V hi hc0 hcw hkt hl hia hits hpc
  have hi:i=ls.length:=hi
  subst hi
  have hn:(dq ls)[ls.length]?=none:=List.getElem?_eq_none (by rw[fB];exact Nat.le_refl _)
  cases cur with
  |none=>exact absurd (List.length_eq_zero_iff.mp (hc0 rfl)) hlne
  |some x0=>
  refine⟨x0,epw,[.ref cw],epc,pc,fun _ _=>False,Z+2,V,Nat.le_add_right _ _,aW.none _,?_,fun k=>⟨k,fun Fz hz=>?_⟩⟩
  ·rw[List.drop_length]
   exact .cons ⟨cw,epc,pc,rfl,.inl (.inr (.head _)),rfl⟩ .nil
  ·rw[bJ]
   exact(I6 fr it l epl ls.length ia wa epw cw epc tc mc k v [.ref cw] (dq ls) pc x0 hn Z V Fz (fun a o q=>hz _ _ (hkt a o q)) (hz _ _ hl)).post fun s r=>r.perm (List.perm_append_comm (l₁:=[_,_,_]) (l₂:=[_]))
 |succ d ih=>
  intro i cur epw epc pc Fr Z V hi hc0 hcw hkt hl hia hits hpc
  refine Classical.byContradiction fun hNN=>?_
  have hil:i<ls.length:=by lia
  have hxi:(dq ls)[i]?=some (.int (ls[i].1:Int) ls[i].2):=by rw[Gh,List.getElem?_eq_getElem hil];rfl
  have hdr:(ls.drop i).map (·.1)=ls[i].1::(ls.drop (i+1)).map (·.1):=by rw[List.drop_eq_getElem_cons hil];rfl
  have hkl:=hks _ (List.getElem_mem hil)
  generalize hpx:ls[i]=px at hxi hdr hkl
  obtain⟨kn,kt⟩:=px
  simp only at hxi hdr hkl
  rw[hdr,lM] at hNN
  have hvi:=hits.len
  have hvk:vsi[kn]?=some (vsi[kn]'(by lia)):=List.getElem?_eq_getElem _
  obtain⟨item,hitem,ka,epk,pk,hv,hfk,hpk⟩:=hits.get hvk
  rw[hv] at hvk
  have hgd:items.getD kn []=aF pk:=by rw[List.getD_eq_getElem?_getD,hitem,hpk];rfl
  have hpp:=hpos item (List.mem_of_getElem? hitem)
  rw[←hpk] at hpp
  rw[cJ] at hpp
  match pk,hpp,hgd,hfk with
  |(x,xt)::pr,hpp,hgd,hfk=>
  have hpr:pr.length+1≤40:=hpp.2
  have hib:i*40≤1000*40:=Nat.mul_le_mul_right _ (by lia)
  have hi1:(i+1)*40=i*40+40:=by rw[Nat.add_mul]
  by_cases h2:pr=[]
  ·have hst:cu items ([],aF pc) kn=([],aF (pc++[(x,xt)])):=by
    unfold cu
    rw[hgd,h2,fW]
    rfl
   rw[hst] at hNN
   refine du (lH (w:=w) (J:=J) (dr:=dr) (os:=os) hkt fr it l epl i ia epi wa epw cw epc tc mc v [.ref cw] vsi (dq ls) pc pr cur kn kt ka epk xt x hl hxi hia hvk (by lia) hfk rfl (by lia) (by show 1≤_;lia) (by lia) Z V h2) fun epw1 sz1 tok1 g1 hj=>?_
   refine xM (ih (i+1) (some ((kn:Int),kt)) epw1 (aB epc (tvs pc) (.str (nm x) xt)) (pc++[(x,xt)]) Fr sz1 tok1 (by lia) (fun q=>(nomatch q)) (by lia) hkt hl hia hits (by rw[List.length_append];show pc.length+1≤_;lia)) fun x' epw' vs' ep0 ps0 X Z' V' k1 k2 k3 k4=>?_
   refine hNN ⟨x',epw',vs',ep0,ps0,X,Z',V',by lia,k2.le g1,k3,fun k=>?_⟩
   obtain⟨ka1,h5⟩:=hj k
   obtain⟨ka2,h6⟩:=k4 ka1
   exact⟨ka2,fun Fz hz=>(h5 Fz hz).con (h6 Fz hz)⟩
  ·refine J7 (nF (w:=w) (J:=J) (dr:=dr) (os:=os) hkt fr it l epl i ia epi wa epw cw epc tc mc v [.ref cw] vsi (dq ls) pc pr cur kn kt ka epk xt x hl hxi hia hvk (by lia) hfk rfl (by lia) (by show 1≤_;lia) (by lia) Z V h2) fun epw1 la yt y v1 X1 sz1 tok1 g1 g2 g2' g3 g5 g6 g7 hj=>?_
   have hst:cu items ([],aF pc) kn=([]++[aF (pc++[(x,xt)])]++(aF pr).dropLast.map (fun p=>[p]),aF [(y,yt)]):=by
    have hne:aF pr≠[]:=fun e=>h2 (List.map_eq_nil_iff.mp e)
    unfold cu
    rw[hgd]
    show(if aF pr=[] then _ else([]++[aF pc++[x]]++(aF pr).dropLast.map (fun p=>[p]),[(aF pr).getLast?.getD []]))=_
    rw[if_neg hne,g5,fW]
    rfl
   rw[hst] at hNN
   refine sV (yP (w:=w) (J:=J) (dr:=dr) (os:=os) fr it l epl ia epi wa tc mc v vsi items hpos hin ls hln hks Z d (i+1) ((kn:Int),kt) epw1 la 0 ([.ref cw]++v1) ([]++[aF (pc++[(x,xt)])]++(aF pr).dropLast.map (fun p=>[p])) [(y,yt)] (aj (aj Fr (bG [(cw,aa (aB epc (tvs pc) (.str (nm x) xt)) (tvs (pc++[(x,xt)])))])) X1) sz1 tok1 (by lia) g1 g2 (hkt.trans fun b o q=>.inl (.inl q)) (.inl (.inl hl)) (.inl (.inl hia)) (aM (fun b o q=>.inl (.inl q)) hits) (All2.app (.cons ⟨cw,_,pc++[(x,xt)],rfl,.inl (.inr (.head _)),rfl⟩ .nil) (aM (Sub.mono (Sub.orL _ _)) g7)) (by rw[List.length_append];show 1+v1.length≤_;lia) (by show 1≤_;lia)) fun x' epw' vs' X Z' V' k1 k2 k3 k4=>?_
   refine hNN ⟨x',epw',vs',_,_,aj X1 X,Z',V',by lia,aW.or g3 k2,by rw[←cX];exact k3,fun k=>?_⟩
   obtain⟨ka1,h5⟩:=hj k
   obtain⟨ka2,h6⟩:=k4 ka1
   refine⟨ka2,fun Fz hz=>?_⟩
   have h7:=h6 (aj (aj Fz X1) (bG [(cw,aa (aB epc (tvs pc) (.str (nm x) xt)) (tvs (pc++[(x,xt)])))])) (fun b o q=>q.elim (fun q=>q.elim (fun q=>.inl (.inl (hz _ _ q))) .inr) fun q=>.inl (.inr q))
   rw[←cX]
   exact jm.con (h5 Fz hz) (jO.thaw' h7 k2 hcw)
end
end
noncomputable def Ba (a b c d e f g:Value):Nat→Value
 |0=>a
 |1=>b
 |3=>c
 |4=>d
 |5=>e
 |6=>f
 |_=>g
structure PnO where
 kf:Hk→Hk
 c:Int×Nat
 n:Nat
 epw:Nat
 vs:List Value
 ep0:Nat
 ps0:List (List Nat×Nat)
 X:bw
 Z:Nat
 V:Nat
noncomputable def DK (P:Params)(fr cw wa it tc mc l ia:Nat)(v:Nat→Value)(o:PnO)(g:Led):Ans:=
 ⟨Aq P fr it tc mc,800,[(fr,Dk (aP (au g 0)) v ia wa none),(cw,aa 0 []),(wa,aa 0 [.ref cw]),(it,cz l 0)],.ok .next,
  [Dk (o.kf (aP (au g 0))) v ia wa (some o.c),aa o.ep0 (tvs o.ps0),aa o.epw o.vs,jo o.n],[],o.X,[],o.Z,o.V⟩
noncomputable def Dr (W:Nat)(f0:List Nat)(ft ra:Nat)(X:bw)(Z V:Nat):Ans:=⟨.call (.ref 860) ⟨[.ref W,.str (nm f0) ft],[]⟩,700,[],.ok (.ret (.ref ra)),[],[],X,[],Z,V⟩
noncomputable def fG (p6:List (List Nat×Nat)):List Nat:=ao [47] (aF p6)
noncomputable def Lg (mk mt:Nat)(p6:List (List Nat×Nat))(V:Nat):Nat:=aY [mk] (fG p6) mt (jT p6 (V+1)) (jK p6 (V+1))
noncomputable def KC (mk:Nat)(p6:List (List Nat×Nat))(V:Nat):Nat:=eN [mk] (fG p6) (jK p6 (V+1))
noncomputable def sE (mk mt:Nat)(p6:List (List Nat×Nat))(V:Nat):List Value:=strValues (mO (nm ([mk]++fG p6)) (nm [47]) (Lg mk mt p6 V) (KC mk p6 V+1))
noncomputable def Xv (mk:Nat)(p6:List (List Nat×Nat))(V:Nat):Nat:=KC mk p6 V+1+lE (nm ([mk]++fG p6)) (nm [47])+2
noncomputable def Pb (mk mt:Nat)(p6:List (List Nat×Nat))(zl:List Nat)(zt V:Nat):Value:=.str (nm (zl++[mk])) (aY zl [mk] zt mt (Xv mk p6 V))
noncomputable def CG (mk mt:Nat)(p6:List (List Nat×Nat))(zl:List Nat)(zt V:Nat):List Value:=(sE mk mt p6 V).dropLast++[Pb mk mt p6 zl zt V]
noncomputable def lX (mk mt:Nat)(p6:List (List Nat×Nat))(zl:List Nat)(zt V:Nat):Nat:=gj 0 (sE mk mt p6 V) fun xs=>xs.setIfInBounds ((sE mk mt p6 V).length-1) (Pb mk mt p6 zl zt V)
noncomputable def xN (mk:Nat)(p6:List (List Nat×Nat))(zl:List Nat)(V:Nat):Nat:=eN zl [mk] (Xv mk p6 V)
theorem pG P W epW ft mk mt ia epi szi toki ta la epl tkd szl tokl n6 zt ru szr tokr kd n7 kt0 was vsi lvs Xi Xl dI front zl o6 o7 x6 x7 p6 pj nc d2 oP tx szt tokt Xt Z V:∃R,bh P none 600 393 (hc (hc (hc 0x10001010001010101010001011300cb00cbcb0101 336 Wx) 56 0xb01000100) 880 Xq) (.call (.ref 855) ⟨[.ref W,.str (nm front) ft,.str (nm [mk]) mt],[]⟩) [] Z V [(W,aa epW was)] (bc 0 (vy W ia epi vsi Xi szi toki) (Z+3) (V+2) (bc 0 (qi ia true ta la epl tkd dI lvs Xl szl tokl) szi (toki+1) (bc 450 (bF (Z+1,bU (.str (nm [mk]) mt)) (cC 900 (dK (GK P) (H7 P Z (Z+1) (szl+5)) (szl+3) (szl+4)) nA (szl+5) (szl+3) ia (szl+4) n6 (some x6) o6)) (szl+6) (tokl+2) (dF 128 [(szl+4,aa o6.ep o6.vs)] [47] (szl+4) p6 (dB [mk] (fG p6) (f9 ([mk]++fG p6) 47 (dC 512 [(o6.Z,aa 0 (sE mk mt p6 o6.V))] o6.Z (.str (nm zl) zt) (dB zl [mk] (vq 512 o6.Z 0 (sE mk mt p6 o6.V) (Pb mk mt p6 zl zt o6.V) (bc 0 (vY 700 845 front ft [] ru szr tokr) (o6.Z+1) (xN mk p6 zl o6.V) (bN (nm []) (nm []) true (v6 front [46,46] nc (tM dI nc d2 (qy 1024 (fun _=>[(szr,aa 0 [(.str (nm [46,46]) (tokr+2))])]) (fun _=>szr) d2 (fun _=>(.str (nm [46,46]) (tokr+2))) kd (bc 29188 (bF (Z+2,bU (.ref o6.Z)) (bF (o6.Z,aa (lX mk mt p6 zl zt o6.V) (CG mk mt p6 zl zt o6.V)) (cC 900 (dK (Dl P) (Gg P Z (Z+2) (szr+4)) (szr+2) (szr+3)) vK (szr+4) (szr+2) la (szr+3) n7 (some x7) o7))) (szr+5) (tokr+8) (dY 10240 [((szr+1),aa 0 (List.replicate kd (.str (nm [46,46]) (tokr+2)))),((szr+3),aa o7.ep o7.vs)] (szr+1) (szr+3) (List.replicate kd (.str (nm [46,46]) (tokr+2))) o7.vs (dF 32768 [(o7.Z,aa 0 ((List.replicate kd (.str (nm [46,46]) (tokr+2)))++o7.vs))] [47] o7.Z pj (dB [] (fG pj) (aX 0 [] la 0 (.int 0 kt0) (ju 458753 (DK P Z (o7.Z+1) (o7.Z+2) (o7.Z+3) (Z+2) (Z+1) la ia (Ba (.ref W) (.str (nm front) ft) (.int dI tkd) (.ref la) (.str (nm []) ru) (.ref (szr+1)) (.str (nm ([]++fG pj)) (aY [] (fG pj) ru (jT pj o7.V) (jK pj o7.V)))) oP) (o7.Z+4) (eN [] (fG pj) (jK pj o7.V)+4) (iK (nm []) (nm []) false (bc 196608 (bF (o7.Z+1,aa oP.ep0 (tvs oP.ps0)) (bF (o7.Z+2,aa oP.epw oP.vs) (Dr (o7.Z+2) front ft tx Xt szt tokt))) oP.Z (oP.V+2) (.nil)))))))))))))))))))))))=R∧vw R 524288=(true,true,.done (.ret (.ref szt)),[]++[(szt,iY [(.str (nm ([]++fG pj)) (aY [] (fG pj) ru (jT pj o7.V) (jK pj o7.V))),.ref tx])],rights (cH R))∧dw R=szt+1∧bk R=tokt∧rF R=(aj (aj (aj (aj (aj (aj (aj (aj (aj (aj (aj (aj (aj (aj (aj (aj (aj (aj (aj (aj (aj (aj (fun _ _=>False) (Xi)) (Xl)) (o6.X)) (cQ)) (cQ)) (cQ)) (cQ)) (cQ)) (cQ)) (cQ)) (cQ)) (cQ)) (cQ)) (cQ)) (o7.X)) (cQ)) (cQ)) (cQ)) (cQ)) (oP.X)) (cQ)) (Xt)):=⟨_,rfl,by kernel_rfl,by kernel_rfl,by kernel_rfl,by kernel_rfl⟩
theorem pQ P W epW ft mk mt ia epi szi toki ta la epl tkd szl tokl n6 zt ru szr tokr (kd:Nat) n7 kt0 was vsi lvs Xi Xl dI front zl o6 o7 x6 x7 p6 pj rr oP tx szt tokt Xt Z V:∃R,bh P none 600 363 (hc (hc 0x10001010001010101010001011200cb00cbcb0101 280 T4) 880 Xq) (.call (.ref 855) ⟨[.ref W,.str (nm front) ft,.str (nm [mk]) mt],[]⟩) [] Z V [(W,aa epW was)] (bc 0 (vy W ia epi vsi Xi szi toki) (Z+3) (V+2) (bc 0 (qi ia true ta la epl tkd dI lvs Xl szl tokl) szi (toki+1) (bc 450 (bF (Z+1,bU (.str (nm [mk]) mt)) (cC 900 (dK (GK P) (H7 P Z (Z+1) (szl+5)) (szl+3) (szl+4)) nA (szl+5) (szl+3) ia (szl+4) n6 (some x6) o6)) (szl+6) (tokl+2) (dF 128 [(szl+4,aa o6.ep o6.vs)] [47] (szl+4) p6 (dB [mk] (fG p6) (f9 ([mk]++fG p6) 47 (dC 512 [(o6.Z,aa 0 (sE mk mt p6 o6.V))] o6.Z (.str (nm zl) zt) (dB zl [mk] (vq 512 o6.Z 0 (sE mk mt p6 o6.V) (Pb mk mt p6 zl zt o6.V) (bc 0 (vY 700 845 front ft (47::rr) ru szr tokr) (o6.Z+1) (xN mk p6 zl o6.V) (bN (nm (47::rr)) (nm []) false (bc 14852 (bF (Z+2,bU (.ref o6.Z)) (bF (o6.Z,aa (lX mk mt p6 zl zt o6.V) (CG mk mt p6 zl zt o6.V)) (cC 900 (dK (Dl P) (Gg P Z (Z+2) (szr+3)) (szr+1) (szr+2)) vK (szr+3) (szr+1) la (szr+2) n7 (some x7) o7))) (szr+4) (tokr+4) (dY 5120 [(szr,aa 0 []),((szr+2),aa o7.ep o7.vs)] szr (szr+2) [] o7.vs (dF 16384 [(o7.Z,aa 0 ([]++o7.vs))] [47] o7.Z pj (dB (47::rr) (fG pj) (aX 0 [] la 0 (.int 0 kt0) (ju 229377 (DK P Z (o7.Z+1) (o7.Z+2) (o7.Z+3) (Z+2) (Z+1) la ia (Ba (.ref W) (.str (nm front) ft) (.int dI tkd) (.ref la) (.str (nm (47::rr)) ru) (.ref szr) (.str (nm ((47::rr)++fG pj)) (aY (47::rr) (fG pj) ru (jT pj o7.V) (jK pj o7.V)))) oP) (o7.Z+4) (eN (47::rr) (fG pj) (jK pj o7.V)+4) (iK (nm (47::rr)) (nm []) true (bc 98304 (bF (o7.Z+1,aa oP.ep0 (tvs oP.ps0)) (bF (o7.Z+2,aa oP.epw oP.vs) (Dr (o7.Z+2) (47::rr) ru tx Xt szt tokt))) oP.Z (oP.V+2) (.nil))))))))))))))))))))=R∧vw R 262144=(true,true,.done (.ret (.ref szt)),[]++[(szt,iY [(.str (nm ((47::rr)++fG pj)) (aY (47::rr) (fG pj) ru (jT pj o7.V) (jK pj o7.V))),.ref tx])],rights (cH R))∧dw R=szt+1∧bk R=tokt∧rF R=(aj (aj (aj (aj (aj (aj (aj (aj (aj (aj (aj (aj (aj (aj (aj (aj (aj (aj (aj (fun _ _=>False) (Xi)) (Xl)) (o6.X)) (cQ)) (cQ)) (cQ)) (cQ)) (cQ)) (cQ)) (cQ)) (cQ)) (o7.X)) (cQ)) (cQ)) (cQ)) (cQ)) (oP.X)) (cQ)) (Xt)):=⟨_,rfl,by kernel_rfl,by kernel_rfl,by kernel_rfl,by kernel_rfl⟩
theorem rG P W epW ft mk mt ia epi szi toki ta la epl tkd szl tokl n6 zt ru szr tokr kd n7 kt0 was vsi lvs Xi Xl dI front zl o6 o7 x6 x7 p6 pj nc d2 k0 Z V:Fa (bh P none 600 338 (hc (hc Wx 56 0xb01000100) 880 Xq) (.call (.ref 855) ⟨[.ref W,.str (nm front) ft,.str (nm [mk]) mt],[]⟩) [] Z V [(W,aa epW was)] (bc 0 (vy W ia epi vsi Xi szi toki) (Z+3) (V+2) (bc 0 (qi ia true ta la epl tkd dI lvs Xl szl tokl) szi (toki+1) (bc 450 (bF (Z+1,bU (.str (nm [mk]) mt)) (cC 900 (dK (GK P) (H7 P Z (Z+1) (szl+5)) (szl+3) (szl+4)) nA (szl+5) (szl+3) ia (szl+4) n6 (some x6) o6)) (szl+6) (tokl+2) (dF 128 [(szl+4,aa o6.ep o6.vs)] [47] (szl+4) p6 (dB [mk] (fG p6) (f9 ([mk]++fG p6) 47 (dC 512 [(o6.Z,aa 0 (sE mk mt p6 o6.V))] o6.Z (.str (nm zl) zt) (dB zl [mk] (vq 512 o6.Z 0 (sE mk mt p6 o6.V) (Pb mk mt p6 zl zt o6.V) (bc 0 (vY 700 845 front ft [] ru szr tokr) (o6.Z+1) (xN mk p6 zl o6.V) (bN (nm []) (nm []) true (v6 front [46,46] nc (tM dI nc d2 (qy 1024 (fun _=>[(szr,aa 0 [(.str (nm [46,46]) (tokr+2))])]) (fun _=>szr) d2 (fun _=>(.str (nm [46,46]) (tokr+2))) kd (bc 29188 (bF (Z+2,bU (.ref o6.Z)) (bF (o6.Z,aa (lX mk mt p6 zl zt o6.V) (CG mk mt p6 zl zt o6.V)) (cC 900 (dK (Dl P) (Gg P Z (Z+2) (szr+4)) (szr+2) (szr+3)) vK (szr+4) (szr+2) la (szr+3) n7 (some x7) o7))) (szr+5) (tokr+8) (dY 10240 [((szr+1),aa 0 (List.replicate kd (.str (nm [46,46]) (tokr+2)))),((szr+3),aa o7.ep o7.vs)] (szr+1) (szr+3) (List.replicate kd (.str (nm [46,46]) (tokr+2))) o7.vs (dF 32768 [(o7.Z,aa 0 ((List.replicate kd (.str (nm [46,46]) (tokr+2)))++o7.vs))] [47] o7.Z pj (dB [] (fG pj) (aX 0 [] la 0 (.int (Int.ofNat (k0+1)) kt0) (.nil))))))))))))))))))))) 65536 (.done (.ret (.ref (o7.Z+1)))) (fun _=>[]++[(o7.Z+1,iY [(.str (nm ([]++fG pj)) (aY [] (fG pj) ru (jT pj o7.V) (jK pj o7.V))),.str (nm [78,111,32,99,108,111,115,105,110,103,32,113,117,111,116,97,116,105,111,110]) (eN [] (fG pj) (jK pj o7.V)+3)])]) (o7.Z+2) (eN [] (fG pj) (jK pj o7.V)+4):=⟨by kernel_rfl⟩
theorem rR P W epW ft mk mt ia epi szi toki ta la epl tkd szl tokl n6 zt ru szr tokr (kd:Nat) n7 kt0 was vsi lvs Xi Xl dI front zl o6 o7 x6 x7 p6 pj rr k0 Z V:Fa (bh P none 600 308 (hc T4 880 Xq) (.call (.ref 855) ⟨[.ref W,.str (nm front) ft,.str (nm [mk]) mt],[]⟩) [] Z V [(W,aa epW was)] (bc 0 (vy W ia epi vsi Xi szi toki) (Z+3) (V+2) (bc 0 (qi ia true ta la epl tkd dI lvs Xl szl tokl) szi (toki+1) (bc 450 (bF (Z+1,bU (.str (nm [mk]) mt)) (cC 900 (dK (GK P) (H7 P Z (Z+1) (szl+5)) (szl+3) (szl+4)) nA (szl+5) (szl+3) ia (szl+4) n6 (some x6) o6)) (szl+6) (tokl+2) (dF 128 [(szl+4,aa o6.ep o6.vs)] [47] (szl+4) p6 (dB [mk] (fG p6) (f9 ([mk]++fG p6) 47 (dC 512 [(o6.Z,aa 0 (sE mk mt p6 o6.V))] o6.Z (.str (nm zl) zt) (dB zl [mk] (vq 512 o6.Z 0 (sE mk mt p6 o6.V) (Pb mk mt p6 zl zt o6.V) (bc 0 (vY 700 845 front ft (47::rr) ru szr tokr) (o6.Z+1) (xN mk p6 zl o6.V) (bN (nm (47::rr)) (nm []) false (bc 14852 (bF (Z+2,bU (.ref o6.Z)) (bF (o6.Z,aa (lX mk mt p6 zl zt o6.V) (CG mk mt p6 zl zt o6.V)) (cC 900 (dK (Dl P) (Gg P Z (Z+2) (szr+3)) (szr+1) (szr+2)) vK (szr+3) (szr+1) la (szr+2) n7 (some x7) o7))) (szr+4) (tokr+4) (dY 5120 [(szr,aa 0 []),((szr+2),aa o7.ep o7.vs)] szr (szr+2) [] o7.vs (dF 16384 [(o7.Z,aa 0 ([]++o7.vs))] [47] o7.Z pj (dB (47::rr) (fG pj) (aX 0 [] la 0 (.int (Int.ofNat (k0+1)) kt0) (.nil)))))))))))))))))) 32768 (.done (.ret (.ref (o7.Z+1)))) (fun _=>[]++[(o7.Z+1,iY [(.str (nm ((47::rr)++fG pj)) (aY (47::rr) (fG pj) ru (jT pj o7.V) (jK pj o7.V))),.str (nm [78,111,32,99,108,111,115,105,110,103,32,113,117,111,116,97,116,105,111,110]) (eN (47::rr) (fG pj) (jK pj o7.V)+3)])]) (o7.Z+2) (eN (47::rr) (fG pj) (jK pj o7.V)+4):=⟨by kernel_rfl⟩
theorem qe P W epW nW was f0 ft o x0 t0 u0 rest Z V:∃R,bh P none 700 89 0x1050005070501030003030301010001030003030301010404040101010200c800c8c801000001010101000000 (.call (.ref 860) ⟨[.ref W,.str (nm f0) ft],[]⟩) [] Z V [(W,aa epW was)] (bc 14 (cC 900 (dK (Nk P) (Oh P Z (Z+3)) (Z+1) (Z+2)) gP (Z+3) (Z+1) W (Z+2) nW (some x0) o) (Z+4) (V+2) (aX 4 [(Z+2,aa o.ep o.vs)] (Z+2) 0 (.str (nm t0) u0) (dB f0 t0 (iI 36 (fun g=>[(Z+2,aa o.ep o.vs),(az g 1,jn (.int 1 (fL (au g 1) 0)) .none)]) (Z+2) (fun g=>az g 1) rest (dY 80 [(o.Z,aa 0 [(.str (nm (f0++t0)) (aY f0 t0 ft u0 (o.V+2)))]),(o.Z+2,aa 0 rest)] o.Z (o.Z+2) [(.str (nm (f0++t0)) (aY f0 t0 ft u0 (o.V+2)))] rest (.nil))))))=R∧vw R 128=(true,true,.done (.ret (.ref (o.Z+3))),[]++[(o.Z+3,aa 0 ((.str (nm (f0++t0)) (aY f0 t0 ft u0 (o.V+2)))::rest))],rights (cH R))∧dw R=o.Z+4∧bk R=eN f0 t0 (o.V+2)+1∧rF R=(aj (aj (aj (aj (aj (fun _ _=>False) (o.X)) (cQ)) (cQ)) (cQ)) (cQ)):=⟨_,rfl,by kernel_rfl,by kernel_rfl,by kernel_rfl,by kernel_rfl⟩
section
noncomputable def aR (ws:List (List (List Nat)))(f:List Nat):List (List Nat):=match ws.map (ao [47]) with
 |[]=>[]
 |t::r=>(f++t)::r
section
variable {w:World} {J:Array GenState} {dr:Drawn} {os:Osw}
theorem dG {Fn:bw}(hkt:Sub (KF w.params) Fn)(W epW:Nat)(was:List Value)(hW:Fn W (aa epW was))(ws:List (List (List Nat)))(hws:All2 (j0 Fn) was ws)(hsz:∀ts∈ws,cR [47] ts≤50000)(hne:ws≠[])(hlen:ws.length≤50000)(f0:List Nat)(hf:f0.length≤50000)(ft Z V:Nat):
  ∃ra X Z' V',Z≤Z'∧aW X Z∧(∃ps,X ra (aa 0 (tvs ps))∧aF ps=aR ws f0)∧bu aH w J dr os Fn ⟨.call (.ref 860) ⟨[.ref W,.str (nm f0) ft],[]⟩,700,[],.ok (.ret (.ref ra)),[],[],X,[],Z',V'⟩ Z V:=by
 have hwl:=hws.len
 refine je (mV (w:=w) (J:=J) (dr:=dr) (os:=os) hkt Z (Z+3) (Z+1) (Z+2) W epW was hW (by lia) ((hws.withP (P:=fun ts=>cR [47] ts≤100000) fun ts h=>by have:=hsz ts h;lia)) (Z+4) (V+2)) fun cur o hcur ho hX hall hans=>?_
 have hwne:was≠[]:=by
  intro e
  rw[e] at hwl
  exact hne (List.length_eq_zero_iff.mp hwl)
 rcases hcur with⟨e,_⟩|⟨_,x0,rfl⟩
 ·exact absurd e hwne
 refine aL (d7 hall) fun ps hvs hps=>?_
 match ps,hps with
 |[],hps=>
  have:ws.map (ao [47])=[]:=hps.symm
  exact absurd (List.map_eq_nil_iff.mp this) hne
 |(t0,u0)::ps',hps=>
  have hps':t0::aF ps'=ws.map (ao [47]):=hps
  refine gB (qe w.params W epW was.length was f0 ft o x0 t0 u0 (tvs ps') Z V) fun R hR H hs ht hrX=>?_
  have hmem:∀l∈t0::aF ps',l.length≤50000:=fun l hl=>by
   rw[hps'] at hl
   refine aL (List.mem_map.mp hl) fun ts hts er6=>?_;subst er6
   exact Nat.le_trans (fj _ _) (hsz ts hts)
  have hpl:ps'.length+1≤50000:=by
   have:=congrArg List.length hps'
   rw[List.length_cons,cJ,List.length_map] at this
   lia
  refine⟨o.Z+3,_,_,_,?_,?_,?_,oh (X:=o.X) hR H hs ht hrX (fun b o' q=>.inl (.inl (.inl (.inl (.inr q))))) (hX.le (Nat.le_add_right _ _)) ?_ hkt ?_ fun Fz hz=>?_⟩
  ·show Z≤o.Z+4
   lia
  ·refine(hX.le (Nat.le_add_right _ _)).or (aW.frL ?_)
   intro q hq
   rw[List.mem_singleton] at hq
   subst hq
   show Z≤o.Z+3
   lia
  ·refine⟨(f0++t0,aY f0 t0 ft u0 (o.V+2))::ps',.inr (.head _),?_⟩
   show(f0++t0)::aF ps'=aR ws f0
   unfold aR
   rw[←hps']
  ·intro q hq
   rw[List.mem_singleton] at hq
   subst hq
   show Z≤o.Z+3
   lia
  ·intro q hq
   rw[List.mem_singleton] at hq
   subst hq
   exact hW
  ·refine dO (hans.mono' hz) (ie (.inr (.head _)) (by decide) (by decide) (by rw[hvs];rfl) (jZ ?_ (tU (lo:=some 1) (hi:=none) (ep:=o.ep) (vs:=o.vs) (fun _=>.inr (.head _)) (fun g=>⟨_,_,.tail _ (.head _),.int _ _,.none⟩) ?_ ?_ (nq (.inr (.head _)) (.inr (.tail _ (.head _))) ?_ trivial))))
   ·have:=hmem t0 (.head _)
    lia
   ·rw[hvs,aG]
    show ps'.length+1≤_
    lia
   ·rw[lW,hvs]
    rfl
   ·rw[aG]
    show 1+ps'.length≤_
    lia
end
end
noncomputable def aO (l:List Nat):Nat:=(PySem.Builtin.Str.occurrences (nm l) (nm [46,46]) 0 (nm l).length ((nm l).length+1)).length
noncomputable def eQ (ws:List (List (List Nat)))(mk:Nat):List (List Nat):=
 (aQ 47 ([mk]++ao [47] ((itemsOf ws).map (ao [mk,32,mk])))).dropLast++[(aQ 47 ([mk]++ao [47] ((itemsOf ws).map (ao [mk,32,mk])))).getLast?.getD []++[mk]]
noncomputable def cU (ws:List (List (List Nat)))(front:List Nat)(mk:Nat):List Nat:=
 rootOf front++ao [47] ((if rootOf front=[] then List.replicate ((cM (itemsOf ws) true).1+aO front) [46,46] else [])++(cM (itemsOf ws) true).2.map fun k=>(eQ ws mk).getD k [])
noncomputable def fV:List Nat:=[78,111,32,99,108,111,115,105,110,103,32,113,117,111,116,97,116,105,111,110]
noncomputable def uD (ws:List (List (List Nat)))(front:List Nat):Option (List (List Nat)):=
 match (cM (itemsOf ws) true).2 with
 |0::r=>some (aR (cY (itemsOf ws) ([],[]) (0::r)) (if rootOf front=[] then front else rootOf front))
 |_=>none
structure WsOk (ws:List (List (List Nat))):Prop where
 ne:ws≠[]
 wd:∀x∈ws,x≠[]∧∀p∈x,p.length≤3∧47∉p
 sum:(ws.map List.length).sum≤30
theorem u6:∀(ws:List (List (List Nat))),(∀x∈ws,x≠[])→ws.length≤(ws.map List.length).sum
 |[],_=>Nat.le_refl _
 |x::r,h=>by
  have h1:=List.length_pos_iff.mpr (h x (.head _))
  have h2:=u6 r fun y hy=>h y (.tail _ hy)
  rw[List.map_cons,List.sum_cons,List.length_cons]
  lia
theorem m9:∀(ws:List (List (List Nat))) (x:List (List Nat)),x∈ws→x.length≤(ws.map List.length).sum
 |y::r,x,h=>by
  rw[List.map_cons,List.sum_cons]
  rcases List.mem_cons.mp h with e|e
  ·subst e;lia
  ·have:=m9 r x e
   lia
theorem lR:∀(ws items:List (List (List Nat))) (n:Nat) (P:List Nat→Prop),items≠[]→(∀x∈items,x≠[]∧x.length≤n∧∀p∈x,P p)→1≤n→(∀x∈ws,x≠[]∧∀p∈x,P p)→
  ws.foldl aZ items≠[]∧(ws.foldl aZ items).length≤items.length+(ws.map List.length).sum∧∀x∈ws.foldl aZ items,x≠[]∧x.length≤n+ws.length∧∀p∈x,P p
 |[],items,n,P,h1,h2,_,_=>⟨h1,Nat.le_add_right _ _,h2⟩
 |t::r,items,n,P,h1,h2,hn,h3=>by
  obtain⟨ht,hp⟩:=h3 t (.head _)
  have hpos:=List.length_pos_iff.mpr h1
  have hl:(aZ items t).length≤items.length+t.length:=by
   unfold aZ
   simp only[List.length_append,List.length_dropLast,List.length_cons,List.length_nil,List.length_map,List.length_drop]
   have:=List.length_pos_iff.mpr ht
   lia
  have hm:∀x∈aZ items t,x≠[]∧x.length≤n+1∧∀p∈x,P p:=fun x hx=>by
   unfold aZ at hx
   rcases List.mem_append.mp hx with hx|hx
   ·rcases List.mem_append.mp hx with hx|hx
    ·have h:=h2 x (List.dropLast_subset items hx)
     exact⟨h.1,Nat.le_succ_of_le h.2.1,h.2.2⟩
    ·rw[List.mem_singleton] at hx
     subst hx
     obtain⟨y,hy⟩:∃y,items.getLast?=some y:=⟨_,List.getLast?_eq_some_getLast h1⟩
     have hyy:=h2 y (List.mem_of_getLast? hy)
     rw[hy]
     refine⟨by simp,by show(y++_).length≤_;rw[List.length_append];show y.length+1≤_;have:=hyy.2.1;lia,fun p hp'=>?_⟩
     rcases List.mem_append.mp hp' with q|q
     ·exact hyy.2.2 p q
     ·rw[List.mem_singleton] at q
      subst q
      cases t with
      |nil=>exact absurd rfl ht
      |cons a b=>exact hp a (.head _)
   ·refine aL (List.mem_map.mp hx) fun p hp' er0=>?_;subst er0
    refine⟨by simp,by show 1≤_;lia,fun q hq=>?_⟩
    rw[List.mem_singleton] at hq
    subst hq
    exact hp q (List.mem_of_mem_drop hp')
  refine aK (lR r (aZ items t) (n+1) P (jP _ _) hm (by lia) fun x hx=>h3 x (.tail _ hx)) fun g1 g2 g3=>?_
  refine⟨g1,?_,fun x hx=>?_⟩
  ·rw[List.map_cons,List.sum_cons]
   show(r.foldl aZ (aZ items t)).length≤_
   lia
  ·refine aK (g3 x hx) fun k1 k2 k3=>?_
   exact⟨k1,by rw[List.length_cons];lia,k3⟩
theorem fQ {ws:List (List (List Nat))}(h:WsOk ws):itemsOf ws≠[]∧(itemsOf ws).length≤30∧∀x∈itemsOf ws,x≠[]∧x.length≤31∧∀p∈x,p.length≤3∧47∉p:=by
 obtain⟨h1,h2,h3⟩:=h
 cases ws with
 |nil=>exact absurd rfl h1
 |cons w0 r=>
  have hw0:=h2 w0 (.head _)
  have hlen:=u6 (w0::r) fun x hx=>(h2 x hx).1
  rw[List.map_cons,List.sum_cons] at h3
  rw[List.map_cons,List.sum_cons,List.length_cons] at hlen
  obtain⟨g1,g2,g3⟩:=lR r (w0.map fun p=>[p]) 1 (fun p=>p.length≤3∧47∉p) (by intro e;exact hw0.1 (List.map_eq_nil_iff.mp e)) (fun x hx=>by
   refine aL (List.mem_map.mp hx) fun p hp er1=>?_;subst er1
   exact⟨by simp,Nat.le_refl _,fun q hq=>by rw[List.mem_singleton] at hq;subst hq;exact hw0.2 q hp⟩) (Nat.le_refl _) fun x hx=>h2 x (.tail _ hx)
  rw[List.length_map] at g2
  have hpos:=List.length_pos_iff.mpr hw0.1
  have hsr:=u6 r fun x hx=>(h2 x (.tail _ hx)).1
  refine⟨g1,?_,fun x hx=>?_⟩
  ·show(r.foldl aZ (w0.map fun p=>[p])).length≤30
   lia
  ·refine aK (g3 x hx) fun k1 k2 k3=>?_
   exact⟨k1,by lia,k3⟩
theorem pY {c:Nat}{sep:List Nat}(hs:c∉sep):∀T:List (List Nat),(∀t∈T,c∉t)→c∉ao sep T
 |[],_=>by simp[ao]
 |[x],h=>h x (.head _)
 |x::y::r,h=>by
  show c∉x++sep++ao sep (y::r)
  rw[List.mem_append,List.mem_append]
  exact fun q=>q.elim (fun q=>q.elim (h x (.head _)) hs) (pY hs (y::r) fun t ht=>h t (.tail _ ht))
theorem O2 {ws:List (List (List Nat))}(h:WsOk ws){mk:Nat}(hm:mk≠47):∀t∈(itemsOf ws).map (ao [mk,32,mk]),t.length≤186∧47∉t:=fun t ht=>by
 refine aL (List.mem_map.mp ht) fun x hx er2=>?_;subst er2
 refine aK ((fQ h).2.2 x hx) fun _ h2 h3=>?_
 refine⟨?_,pY (by simp;exact fun e=>hm e.symm) x fun p hp=>(h3 p hp).2⟩
 have h4:=fj [mk,32,mk] x
 have h5:=il [mk,32,mk] 3 x fun p hp=>(h3 p hp).1
 have h6:x.length*(3+[mk,32,mk].length)≤31*6:=Nat.mul_le_mul_right _ h2
 lia
theorem Dm {T:List (List Nat)}{mk:Nat}(hne:T≠[])(hm:mk≠47)(h:∀t∈T,47∉t):(aQ 47 ([mk]++ao [47] T)).length=T.length:=by
 cases T with
 |nil=>exact absurd rfl hne
 |cons t r=>
  have e:[mk]++ao [47] (t::r)=ao [47] ((mk::t)::r):=by
   cases r with
   |nil=>rfl
   |cons=>rfl
  rw[e,mC (by simp) fun p hp=>?_]
  ·rfl
  ·rcases List.mem_cons.mp hp with q|q
   ·subst q
    exact fun q=>(List.mem_cons.mp q).elim (fun e=>hm e.symm) (h t (.head _))
   ·exact h p (.tail _ q)
theorem vB {items:List (List (List Nat))}{mk:Bool}:∀(j:Nat) (s:Nat×List Nat),s.2≠[]→(mz items mk j s).2≠[]
 |0,_,h=>h
 |j+1,s,h=>vB j _ (by
  unfold cO
  split
  ·exact h
  ·split
   ·exact h
   ·split
    ·exact h
    ·simp)
theorem Ex {items:List (List (List Nat))}(h:items≠[]):(cM items true).2≠[]:=by
 unfold cM
 obtain⟨n,hn⟩:∃n,items.length=n+1:=⟨items.length-1,by have:=List.length_pos_iff.mpr h;lia⟩
 rw[hn]
 refine vB n _ ?_
 have hN:isName items true n=true:=by
  unfold isName
  rw[hn]
  simp
 unfold cO
 rw[hN,if_neg (by simp),if_neg (by simp),if_neg (by simp)]
 simp
theorem wA {items:List (List (List Nat))}{mk:Bool}:∀k∈(cM items mk).2,k<items.length:=fun k hk=>by
 rcases tO _ _ _ hk with h|⟨h,_⟩
 ·cases h
 ·exact h
theorem zb (items:List (List (List Nat)))(mk:Bool):(cM items mk).1≤items.length:=by
 have:=rz (items:=items) (mk:=mk) items.length (0,[])
 have e:((0,[]):Nat×List Nat).1=0:=rfl
 unfold cM
 lia
section
open Builtin Builtin.Str Builtin.Int
theorem tK {items:List (List (List Nat))}(hit:∀x∈items,x.length≤31∧∀p∈x,p.length≤3):∀(ks:List Nat) (s:List (List (List Nat))×List (List Nat)) (n:Nat),(∀x∈s.1,x.length≤n∧∀p∈x,p.length≤3)→s.2.length≤n→1≤n→(∀p∈s.2,p.length≤3)→
  (cY items s ks).length≤s.1.length+1+ks.length*31∧∀x∈cY items s ks,x.length≤n+ks.length∧∀p∈x,p.length≤3
 |[],s,n,h1,h2,_,h3=>⟨by unfold cY;rw[List.length_append];exact Nat.le_refl _,fun x hx=>by
   rcases List.mem_append.mp hx with q|q
   ·exact h1 x q
   ·rw[List.mem_singleton] at q;subst q;exact⟨h2,h3⟩⟩
 |k::ks,s,n,h1,h2,hn,h3=>by
  rw[lM]
  have hk:∀x,x=items.getD k []→x.length≤31∧∀p∈x,p.length≤3:=fun x e=>by
   rw[List.getD_eq_getElem?_getD] at e
   cases hg:items[k]? with
   |none=>rw[hg] at e;subst e;exact⟨Nat.zero_le _,fun p q=>nomatch q⟩
   |some y=>
    rw[hg] at e
    have e':x=y:=e
    rw[e']
    exact hit y (List.mem_of_getElem? hg)
  have key:(∀x∈(cu items s k).1,x.length≤n+1∧∀p∈x,p.length≤3)∧(cu items s k).2.length≤n+1∧(∀p∈(cu items s k).2,p.length≤3)∧(cu items s k).1.length≤s.1.length+31:=by
   have h1':∀x∈s.1,x.length≤n+1∧∀p∈x,p.length≤3:=fun x hx=>⟨Nat.le_succ_of_le (h1 x hx).1,(h1 x hx).2⟩
   unfold cu
   split
   ·exact⟨h1',Nat.le_succ_of_le h2,h3,Nat.le_add_right _ _⟩
   ·rename_i hd r e
    have he:=hk (hd::r) e.symm
    have h3':∀p∈s.2++[hd],p.length≤3:=fun p hp=>by
     rcases List.mem_append.mp hp with q|q
     ·exact h3 p q
     ·rw[List.mem_singleton] at q;subst q;exact he.2 _ (.head _)
    have h2':(s.2++[hd]).length≤n+1:=by rw[List.length_append];show s.2.length+1≤_;lia
    split
    ·exact⟨h1',h2',h3',Nat.le_add_right _ _⟩
    ·rename_i hr
     refine⟨fun x hx=>?_,by show 1≤_;lia,fun p hp=>?_,?_⟩
     ·rcases List.mem_append.mp hx with q|q
      ·rcases List.mem_append.mp q with q|q
       ·exact h1' x q
       ·rw[List.mem_singleton] at q;subst q;exact⟨h2',h3'⟩
      ·refine aL (List.mem_map.mp q) fun p hp er3=>?_;subst er3
       refine⟨by show 1≤_;lia,fun p' hp'=>?_⟩
       rw[List.mem_singleton] at hp'
       subst hp'
       exact he.2 _ (.tail _ (List.dropLast_subset r hp))
     ·rw[List.mem_singleton] at hp
      subst hp
      rw[List.getLast?_eq_some_getLast hr]
      exact he.2 _ (.tail _ (List.getLast_mem hr))
     ·have h4:r.length+1≤31:=he.1
      rw[List.length_append,List.length_append,List.length_map,List.length_dropLast]
      show s.1.length+1+_≤_
      lia
  refine cg key fun k1 k2 k3 k4=>?_
  obtain⟨g1,g2⟩:=tK hit ks (cu items s k) (n+1) k1 k2 (by lia) k3
  refine⟨?_,fun x hx=>⟨by have:=(g2 x hx).1;rw[List.length_cons];lia,(g2 x hx).2⟩⟩
  rw[List.length_cons,Nat.add_mul]
  lia
theorem Hx {T:List (List Nat)}{mk B:Nat}(hne:T≠[])(hm:mk≠47)(h:∀t∈T,t.length≤B∧47∉t):∀x∈aQ 47 ([mk]++ao [47] T),x.length≤B+1:=by
 cases T with
 |nil=>exact absurd rfl hne
 |cons t r=>
  have e:[mk]++ao [47] (t::r)=ao [47] ((mk::t)::r):=by
   cases r with
   |nil=>rfl
   |cons=>rfl
  rw[e,mC (by simp) fun p hp=>?_]
  ·intro x hx
   rcases List.mem_cons.mp hx with q|q
   ·subst q
    have:=(h t (.head _)).1
    show t.length+1≤_
    lia
   ·have:=(h x (.tail _ q)).1
    lia
  ·rcases List.mem_cons.mp hp with q|q
   ·subst q
    exact fun q=>(List.mem_cons.mp q).elim (fun e=>hm e.symm) (h t (.head _)).2
   ·exact(h p (.tail _ q)).2
theorem jV (items:List (List (List Nat)))(s:List (List (List Nat))×List (List Nat))(ks:List Nat):cY items s ks≠[]:=by
 unfold cY
 simp
noncomputable def Yc (F:bw)(v:Value):Option (List (List Nat))→Prop
 |none=>∃t,v=.str (nm fV) t
 |some T=>∃a ps,v=.ref a∧F a (aa 0 (tvs ps))∧aF ps=T
noncomputable def z8 (W:Nat)(front:List Nat)(ft mk mt ra:Nat)(pv dv:Value)(X:bw)(Z V:Nat):Ans:=
 ⟨.call (.ref 855) ⟨[.ref W,.str (nm front) ft,.str (nm [mk]) mt],[]⟩,600,[],.ok (.ret (.ref ra)),[],[],X,[(ra,iY [pv,dv])],Z,V⟩
section
variable {w:World} {J:Array GenState} {dr:Drawn} {os:Osw}
theorem iB {Fn:bw}(hkt:Sub (KF w.params) Fn)(W epW:Nat)(was:List Value)(hW:Fn W (aa epW was))(ws:List (List (List Nat)))(hws:All2 (j0 Fn) was ws)(hok:WsOk ws)(front:List Nat)(hfl:front.length≤10)(hcnt:aO front≤10)(ft mk:Nat)(hm:mk≠47)(mt Z V:Nat):
  ∃(ra pt:Nat) (dv:Value) (X:bw) (Z' V':Nat),Z≤Z'∧aW X Z∧Yc X dv (uD ws front)∧bu aH w J dr os Fn (z8 W front ft mk mt ra (.str (nm (cU ws front mk)) pt) dv X Z' V') Z V:=by
 refine Classical.byContradiction fun hNN=>?_
 have hwl:=u6 ws fun x hx=>(hok.wd x hx).1
 have hsum:=hok.sum
 refine aK (fQ hok) fun q1 q2 q3=>?_
 refine OD (lQ (w:=w) (J:=J) (dr:=dr) (os:=os) hkt W epW was hW ws hws (fun x hx=>⟨(hok.wd x hx).1,by have:=m9 ws x hx;lia⟩) (by lia) hok.ne (Z+3) (V+2)) fun ia epi vsi Xi szi toki i1 i2 i3 i4 _ _ _ hansI=>?_
 generalize hit:itemsOf ws=items at *
 have hvil:vsi.length=items.length:=i4.len.symm
 refine V3 (oW (w:=w) (J:=J) (dr:=dr) (os:=os) (Fn:=aj Fn Xi) (hkt.trans (Sub.orL _ _)) ia epi vsi (.inr i3) items i4 q1 (by lia) (fun x hx=>⟨(q3 x hx).1,by have:=(q3 x hx).2.1;lia⟩) true szi (toki+1)) fun ta la epl tkd dd lv Xl szl tokl l1 l2 l3 l4 l5 hansL=>?_
 have hlne:lv≠[]:=fun e=>Ex q1 (by rw[l3,e];rfl)
 have hks:∀p∈lv,p.1<items.length:=fun p hp=>wA (mk:=true) p.1 (by rw[l3];exact List.mem_map.mpr ⟨p,hp,rfl⟩)
 have hdd:dd≤items.length:=by have:=zb items true;rw[l3] at this;exact this
 have htx:∀t∈items.map (ao [mk,32,mk]),t.length≤186∧47∉t:=by rw[←hit];exact O2 hok hm
 have hin6:All2 (fun x ts=>j0 (aj (aj (aj Fn Xi) Xl) (bG [(Z+1,bU (.str (nm [mk]) mt))])) x ts∧cR [mk,32,mk] ts≤100000) vsi items:=by
  refine All2.withP (aM (fun b o q=>.inl (.inl q)) i4) fun x hx=>?_
  have h5:=il [mk,32,mk] 3 x fun p hp=>((q3 x hx).2.2 p hp).1
  have h6:x.length*(3+[mk,32,mk].length)≤31*6:=Nat.mul_le_mul_right _ (q3 x hx).2.1
  lia
 refine je (nJ (w:=w) (J:=J) (dr:=dr) (os:=os) (Fn:=aj (aj (aj Fn Xi) Xl) (bG [(Z+1,bU (.str (nm [mk]) mt))])) (hkt.trans fun b o q=>.inl (.inl (.inl q))) Z (szl+5) (szl+3) (szl+4) ia epi (Z+1) vsi (.inl (.inl (.inr i3))) (by lia) mt mk (.inr (.head _)) hin6 (szl+6) (tokl+2)) fun cur6 o6 hc6 ho6 hX6 hall6 hans6=>?_
 have hvne:vsi≠[]:=fun e=>q1 (List.length_eq_zero_iff.mp (by rw[←hvil,e];rfl))
 rcases hc6 with⟨e,_⟩|⟨_,x6,rfl⟩
 ·exact absurd e hvne
 refine aL (d7 hall6) fun p6 hv6 hp6=>?_
 have hp6':aF p6=items.map (ao [mk,32,mk]):=hp6
 have hp6l:(aF p6).length=items.length:=by rw[hp6',List.length_map]
 have hJs:cR [47] (aF p6)≤5610:=by
  have h1:=il [47] 186 (aF p6) fun x hx=>(htx x (hp6'▸hx)).1
  have h2:(aF p6).length*(186+[47].length)≤30*187:=Nat.mul_le_mul_right _ (by lia)
  lia
 have hJl:(fG p6).length≤5610:=Nat.le_trans (fj _ _) hJs
 have hline:aQ 47 ([mk]++fG p6)=aQ 47 ([mk]++ao [47] (items.map (ao [mk,32,mk]))):=by rw[←hp6'];rfl
 have hcut:(aQ 47 ([mk]++fG p6)).length=items.length:=by
  rw[hline,Dm (by intro e;exact q1 (List.map_eq_nil_iff.mp e)) hm fun t ht=>(htx t ht).2,List.length_map]
 have hv:=Ad (mO (nm ([mk]++fG p6)) (nm [47]) (Lg mk mt p6 o6.V) (KC mk p6 o6.V+1))
 have hf:=DR ([mk]++fG p6) 47 (Lg mk mt p6 o6.V) (KC mk p6 o6.V+1)
 generalize hpc:Ca (mO (nm ([mk]++fG p6)) (nm [47]) (Lg mk mt p6 o6.V) (KC mk p6 o6.V+1))=pc at hv hf
 have hv':tvs pc=sE mk mt p6 o6.V:=hv
 have hpne:pc≠[]:=fun e=>jy 47 ([mk]++fG p6) (by rw[←hf,e];rfl)
 have hpcl:pc.length=items.length:=by rw[←cJ,hf,hcut]
 refine aJ (⟨pc.dropLast,pc.getLast hpne,(List.dropLast_concat_getLast hpne).symm⟩:∃q z,pc=q++[z]) fun qc ep4 hqc=>?_;obtain⟨zl,zt⟩:=ep4
 have hzlast:(sE mk mt p6 o6.V).getLast?=some (.str (nm zl) zt):=by rw[←hv',hqc,←iU];simp
 have hcm:∀x∈aQ 47 ([mk]++fG p6),x.length≤187:=by
  rw[hline]
  exact Hx (by intro e;exact q1 (List.map_eq_nil_iff.mp e)) hm htx
 have hzl:zl.length≤187:=hcm zl (by rw[←hf,hqc,fW];exact List.mem_append_right _ (.head _))
 have hvsne:sE mk mt p6 o6.V≠[]:=by intro e;rw[e] at hzlast;cases hzlast
 obtain⟨pt,hpt⟩:∃pt,pt=qc++[(zl++[mk],aY zl [mk] zt mt (Xv mk p6 o6.V))]:=⟨_,rfl⟩
 have hTx:CG mk mt p6 zl zt o6.V=tvs pt:=by
  unfold CG Pb
  rw[←hv',hqc,hpt,←iU,←iU,List.dropLast_concat]
 have hpts:aF pt=eQ ws mk:=by
  unfold eQ
  rw[hit,←hline,←hf,hqc,hpt,fW,fW,List.dropLast_concat,List.getLast?_concat]
  rfl
 have hptl:pt.length=items.length:=by rw[←hpcl,hqc,hpt,List.length_append,List.length_append];rfl
 have hpel:∀x∈aF pt,x.length≤188:=fun x hx=>by
  rw[hpt,fW] at hx
  rcases List.mem_append.mp hx with q|q
  ·have:=hcm x (by rw[←hf,hqc,fW];exact List.mem_append_left _ q)
   lia
  ·rw[List.mem_singleton] at q
   subst q
   rw[List.length_append]
   show zl.length+1≤_
   lia
 refine du (ir (w:=w) (J:=J) (dr:=dr) (os:=os) hkt front (by lia) ft (o6.Z+1) (xN mk p6 zl o6.V)) fun ru szr tokr r1 hansR=>?_
 have hin7:All2 (fun x ts=>∃(k:Nat) (t u:Nat),x=.int (k:Int) t∧(tvs pt)[k]?=some (.str (nm ts) u)∧k≤100000) (dq lv) (lv.map fun p=>(eQ ws mk).getD p.1 []):=by
  have:∀(L:List (Nat×Nat)),(∀p∈L,p.1<items.length)→All2 (fun x ts=>∃(k:Nat) (t u:Nat),x=.int (k:Int) t∧(tvs pt)[k]?=some (.str (nm ts) u)∧k≤100000) (dq L) (L.map fun p=>(eQ ws mk).getD p.1 []):=fun L=>by
   induction L with
   |nil=>exact fun _=>.nil
   |cons p L ih=>
    intro h
    refine .cons ?_ (ih fun k hk=>h k (.tail _ hk))
    have h1:p.1<items.length:=h p (.head _)
    have h2:p.1<pt.length:=by lia
    refine⟨p.1,p.2,pt[p.1].2,rfl,?_,by lia⟩
    rw[uA,List.getElem?_eq_getElem h2]
    have:(eQ ws mk).getD p.1 []=pt[p.1].1:=by
     rw[←hpts,List.getD_eq_getElem?_getD]
     unfold aF
     rw[List.getElem?_map,List.getElem?_eq_getElem h2]
     rfl
    show some (Value.str (nm pt[p.1].1) pt[p.1].2)=some (.str (nm ((eQ ws mk).getD p.1 [])) pt[p.1].2)
    rw[this]
  exact this lv hks
 have comp7:∀(it acc d Z' V':Nat),∃(x7:Value) (o:CompOut) (p7:List (List Nat×Nat)),Z'≤o.Z∧o.vs=tvs p7∧aF p7=lv.map (fun p=>(eQ ws mk).getD p.1 [])∧∀G:bw,Sub Fn G→Sub Xl G→bu aH w J dr os G (bF (Z+2,bU (.ref o6.Z)) (bF (o6.Z,aa (lX mk mt p6 zl zt o6.V) (tvs pt)) (cC 900 (dK (Dl w.params) (Gg w.params Z (Z+2) d) it acc) vK d it la acc lv.length (some x7) o))) Z' V':=fun it acc d Z' V'=>by
  refine je (nY (w:=w) (J:=J) (dr:=dr) (os:=os) (Fn:=aj (aj (aj Fn Xl) (bG [(Z+2,bU (.ref o6.Z))])) (bG [(o6.Z,aa (lX mk mt p6 zl zt o6.V) (tvs pt))])) (hkt.trans fun b o q=>.inl (.inl (.inl q))) Z d it acc la epl (Z+2) (dq lv) (.inl (.inl (.inr l5))) (by rw[fB];lia) o6.Z (lX mk mt p6 zl zt o6.V) (tvs pt) (.inl (.inr (.head _))) (.inr (.head _)) hin7 Z' V') fun cur o hc ho _ hall hans=>?_
  rcases hc with⟨e,_⟩|⟨_,x7,rfl⟩
  ·exact absurd (List.map_eq_nil_iff.mp e) hlne
  refine aL (d7 (f:=id) hall) fun p7 hp7 hp7'=>?_
  refine⟨x7,o,p7,ho,hp7,by rw[hp7',List.map_id],fun G hG hX=>?_⟩
  rw[fB] at hans
  refine fU rfl (fU rfl (hans.mono' ?_))
  exact Sub.mono (Sub.mono (hG.both hX))
 have emap:((cM items true).2).map (fun k=>(eQ ws mk).getD k [])=lv.map fun p=>(eQ ws mk).getD p.1 []:=by rw[l3,List.map_map];rfl
 have hplain:∀root,rootOf front=root→cU ws front mk=root++ao [47] ((if root=[] then List.replicate (dd+aO front) [46,46] else [])++lv.map fun p=>(eQ ws mk).getD p.1 []):=fun root hr=>by
  unfold cU
  rw[hr,hit,emap,l3]
 have hjoin:∀(k u:Nat) (p7:List (List Nat×Nat)),k≤40→aF p7=lv.map (fun p=>(eQ ws mk).getD p.1 [])→cR [47] (aF (List.replicate k ([46,46],u)++p7))≤14000∧(p7.length≤30):=fun k u p7 hk h=>by
  have h7:p7.length=lv.length:=by rw[←cJ,h,List.length_map]
  have hB:∀x∈aF (List.replicate k ([46,46],u)++p7),x.length≤188:=fun x hx=>by
   rw[rU,rW] at hx
   rcases List.mem_append.mp hx with q|q
   ·rw[List.eq_of_mem_replicate q];show 2≤188;decide
   ·rw[h] at q
    refine aL (List.mem_map.mp q) fun p hp er5=>?_;subst er5
    have h1:p.1<(aF pt).length:=by rw[cJ,hptl];exact hks p hp
    refine hpel _ ?_
    rw[hpts,List.getD_eq_getElem?_getD,←hpts,List.getElem?_eq_getElem h1]
    exact List.getElem_mem h1
  have h3:=il [47] 188 _ hB
  have h4:(aF (List.replicate k ([46,46],u)++p7)).length≤70:=by
   rw[rU,rW,List.length_append,List.length_replicate,cJ]
   lia
  have h5:=Nat.mul_le_mul_right (188+[47].length) h4
  have e:70*(188+[47].length)=13230:=rfl
  exact⟨by lia,by lia⟩
 have pre:∀{Fz:bw} {kk:Ant} (root:List Nat) (bq:Bool),Sub Fn Fz→rootOf front=root→((nm root).cps.toList==(nm []).cps.toList)=bq→aA aH w J dr os (aj (aj (aj (aj Fz Xi) Xl) o6.X) cQ) kk→
   aA aH w J dr os Fz (bc 0 (vy W ia epi vsi Xi szi toki) (Z+3) (V+2) (bc 0 (qi ia true ta la epl tkd (dd:Int) (dq lv) Xl szl tokl) szi (toki+1) (bc 450 (bF (Z+1,bU (.str (nm [mk]) mt)) (cC 900 (dK (GK w.params) (H7 w.params Z (Z+1) (szl+5)) (szl+3) (szl+4)) nA (szl+5) (szl+3) ia (szl+4) vsi.length (some x6) o6)) (szl+6) (tokl+2) (dF 128 [(szl+4,aa o6.ep o6.vs)] [47] (szl+4) p6 (dB [mk] (fG p6) (f9 ([mk]++fG p6) 47 (dC 512 [(o6.Z,aa 0 (sE mk mt p6 o6.V))] o6.Z (.str (nm zl) zt) (dB zl [mk] (vq 512 o6.Z 0 (sE mk mt p6 o6.V) (Pb mk mt p6 zl zt o6.V) (bc 0 (vY 700 845 front ft root ru szr tokr) (o6.Z+1) (xN mk p6 zl o6.V) (bN (nm root) (nm []) bq kk))))))))))):=fun {Fz kk} root bq hz hr hb hk=>by
  have h1:([mk]:List Nat).length=1:=rfl
  refine dO (hansI.mono' hz) (dO (hansL.mono' (Sub.mono hz)) (dO (fU rfl (hans6.mono' (Sub.mono (Sub.mono (Sub.mono hz))))) (lL (ep:=o6.ep) (.inr (by rw[hv6];exact .head _)) (by lia) (jZ (by lia) (o4 (by rw[List.length_append];lia) (fu (.inr (.head _)) hzlast (jZ (by lia) (Nm hvsne (dO ?_ (gm hb hk))))))))))
  rw[←hr]
  exact hansR.mono' (hz.trans fun b o q=>.inl (.inl (.inl q)))
 have row:∀(b0 tk:Nat) (vv:Nat→Value) (sh:List Nat) (sht:Nat),sh.length≤10→Z≤b0→∃(oP:PnO) (tx szt tokt:Nat) (Xt:bw) (psT:List (List Nat×Nat)),b0≤oP.Z∧oP.Z≤szt∧aW Xt oP.Z∧Xt tx (aa 0 (tvs psT))∧aF psT=aR (cY items ([],[]) (lv.map (·.1))) sh∧∀G:bw,Sub Fn G→Sub Xi G→Sub Xl G→
   (∀g,bu aH w J dr os G (DK w.params Z (b0+1) (b0+2) (b0+3) (Z+2) (Z+1) la ia vv oP g) (b0+4) (tk+4))∧bu aH w J dr os (aj G oP.X) (bF (b0+1,aa oP.ep0 (tvs oP.ps0)) (bF (b0+2,aa oP.epw oP.vs) (Dr (b0+2) sh sht tx Xt szt tokt))) oP.Z (oP.V+2):=fun b0 tk vv sh sht hsh hb0=>by
  refine xM (BV (w:=w) (J:=J) (dr:=dr) (os:=os) Z (b0+3) la epl ia epi (b0+2) (Z+2) (Z+1) vv vsi items (fun x hx=>⟨(q3 x hx).1,by have:=(q3 x hx).2.1;lia⟩) (by lia) lv (by lia) hks hlne (b0+1) lv.length 0 none 0 0 [] (aj (aj Fn Xi) Xl) (b0+4) (tk+4) (Nat.zero_add _) (fun _=>rfl) (by lia) (hkt.trans fun b o q=>.inl (.inl q)) (.inr l5) (.inl (.inr i3)) (aM (Sub.orL _ _) i4) (Nat.zero_le _)) fun x' epw' vs' ep0 ps0 X szP tokP n1 n2 n3 n4=>?_
  rw[List.drop_zero] at n3
  have n3':All2 (j0 (aj (aj (aj (aj Fn Xi) Xl) (bG [(b0+1,aa ep0 (tvs ps0))])) X)) vs' (cY items ([],[]) (lv.map (·.1))):=n3
  generalize ho:(⟨fun k=>(n4 k).choose,x',lv.length,epw',vs',ep0,ps0,X,szP,tokP⟩:PnO)=oP
  have e:oP.epw=epw'∧oP.vs=vs'∧oP.ep0=ep0∧oP.ps0=ps0∧oP.X=X∧oP.Z=szP∧oP.V=tokP:=by rw[←ho];exact⟨rfl,rfl,rfl,rfl,rfl,rfl,rfl⟩
  refine ji e fun e1 e2 e3 e4 e5 e6 e7=>?_
  obtain⟨rl,rm⟩:=tK (items:=items) (fun x hx=>⟨(q3 x hx).2.1,fun p hp=>((q3 x hx).2.2 p hp).1⟩) (lv.map (·.1)) ([],[]) 1 (fun x q=>nomatch q) (Nat.zero_le _) (Nat.le_refl _) (fun p q=>nomatch q)
  rw[List.length_map] at rl rm
  have rl':(cY items ([],[]) (lv.map (·.1))).length≤0+1+lv.length*31:=rl
  have h30:lv.length*31≤30*31:=Nat.mul_le_mul_right _ (by lia)
  obtain⟨tx,Xt,szt,tokt,t1,t2,⟨psT,t3,t4⟩,t5⟩:=dG (w:=w) (J:=J) (dr:=dr) (os:=os) (Fn:=aj (aj (aj (aj (aj Fn Xi) Xl) X) (bG [(b0+1,aa ep0 (tvs ps0))])) (bG [(b0+2,aa epw' vs')])) (hkt.trans fun b o q=>.inl (.inl (.inl (.inl (.inl q))))) (b0+2) epw' vs' (.inr (.head _)) (cY items ([],[]) (lv.map (·.1))) (aM (fun b o q=>q.elim (fun q=>q.elim (fun q=>.inl (.inl (.inl q))) fun q=>.inl (.inr q)) fun q=>.inl (.inl (.inr q))) n3') (fun ts hts=>by
   have h5:=il [47] 3 ts fun p hp=>(rm ts hts).2 p hp
   have h6:ts.length*(3+[47].length)≤31*4:=Nat.mul_le_mul_right _ (by have:=(rm ts hts).1;lia)
   lia) (jV _ _ _) (by lia) sh (by lia) sht szP (tokP+2)
  refine⟨oP,tx,szt,tokt,Xt,psT,by lia,by lia,by rw[e6];exact t2,t3,t4,fun G hG hGi hGl=>⟨fun g=>?_,?_⟩⟩
  ·rw[←ho]
   refine⟨n2,fun _ q=>(nomatch q),fun Fz hF=>?_⟩
   have:=(n4 (aP (au g 0))).choose_spec Fz ((hG.both hGi).both hGl |>.trans hF)
   refine this.perm' ?_ ?_
   ·exact .cons _ (List.reverse_perm _).symm
   ·exact(List.Perm.swap _ _ _).trans (.cons _ (.cons _ (List.Perm.swap _ _ [])))
  ·rw[e1,e2,e3,e4,e5,e6,e7]
   refine fU rfl (fU rfl (t5.mono' (Sub.mono (Sub.mono ?_))))
   exact Sub.mono ((hG.both hGi).both hGl)
 have l3':(cM items true).2=lv.map (·.1):=by rw[l3]
 have hk0:(∃kt0,(dq lv)[(0:Int).toNat]?=some (.int 0 kt0)∧uD ws front=some (aR (cY items ([],[]) (cM items true).2) (if rootOf front=[] then front else rootOf front)))∨(∃k0 kt0,(dq lv)[(0:Int).toNat]?=some (.int (Int.ofNat (k0+1)) kt0)∧uD ws front=none):=by
  unfold uD
  rw[hit,l3']
  match lv,hlne with
  |(0,kt0)::r,_=>exact .inl ⟨kt0,rfl,rfl⟩
  |(k0+1,kt0)::r,_=>exact .inr ⟨k0,kt0,rfl,rfl⟩
 rcases zj front with hr|⟨rr,hr⟩
 ·refine jd (comp7 (szr+2) (szr+3) (szr+4) (szr+5) (tokr+8)) fun x7 o7 p7 ho7 hv7 hp7 hans7=>?_
  have hj:cR [47] (aF (List.replicate (dd+aO front) ([46,46],tokr+2)++p7))≤14000∧p7.length≤30:=hjoin (dd+aO front) (tokr+2) p7 (by lia) hp7
  have hjl:(fG (List.replicate (dd+aO front) ([46,46],tokr+2)++p7)).length≤14000:=Nat.le_trans (fj _ _) hj.1
  have etv:(List.replicate (dd+aO front) (.str (nm [46,46]) (tokr+2)))++o7.vs=tvs (List.replicate (dd+aO front) ([46,46],tokr+2)++p7):=by rw[Fd,FT,hv7]
  have hpl:cU ws front mk=[]++fG (List.replicate (dd+aO front) ([46,46],tokr+2)++p7):=by rw[hplain [] hr,if_pos rfl];unfold fG;rw[rU,rW,hp7]
  have tail:∀{Fz:bw} {kk:Ant},Sub Fn Fz→aA aH w J dr os (aj (aj (aj (aj (aj Fz Xi) Xl) o6.X) cQ) o7.X) kk→aA aH w J dr os (aj (aj (aj (aj Fz Xi) Xl) o6.X) cQ) (v6 front [46,46] (aO front:Int) (tM (dd:Int) (aO front:Int) ((dd+aO front:Nat):Int) (qy 1024 (fun _=>[(szr,aa 0 [(.str (nm [46,46]) (tokr+2))])]) (fun _=>szr) ((dd+aO front:Nat):Int) (fun _=>(.str (nm [46,46]) (tokr+2))) (dd+aO front) (bc 29188 (bF (Z+2,bU (.ref o6.Z)) (bF (o6.Z,aa (lX mk mt p6 zl zt o6.V) (CG mk mt p6 zl zt o6.V)) (cC 900 (dK (Dl w.params) (Gg w.params Z (Z+2) (szr+4)) (szr+2) (szr+3)) vK (szr+4) (szr+2) la (szr+3) lv.length (some x7) o7))) (szr+5) (tokr+8) (dY 10240 [((szr+1),aa 0 (List.replicate (dd+aO front) (.str (nm [46,46]) (tokr+2)))),((szr+3),aa o7.ep o7.vs)] (szr+1) (szr+3) (List.replicate (dd+aO front) (.str (nm [46,46]) (tokr+2))) o7.vs (dF 32768 [(o7.Z,aa 0 ((List.replicate (dd+aO front) (.str (nm [46,46]) (tokr+2)))++o7.vs))] [47] o7.Z (List.replicate (dd+aO front) ([46,46],tokr+2)++p7) (dB [] (fG (List.replicate (dd+aO front) ([46,46],tokr+2)++p7)) kk))))))):=fun {Fz kk} hz hk=>by
   have h7:((List.replicate (dd+aO front) (.str (nm [46,46]) (tokr+2))):List Value).length≤60:=by rw[List.length_replicate];lia
   have h8:o7.vs.length≤30:=by rw[hv7,aG];exact hj.2
   exact JV rfl (wk (by lia) (Fo (fun _=>⟨0,.inr (.head _)⟩) rfl (by lia) (dO (by rw[hTx];exact hans7 _ (hz.trans fun b o q=>.inl (.inl (.inl (.inl q)))) (fun b o q=>.inl (.inl (.inr q)))) (nq (.inr (.head _)) (.inr (.tail _ (.head _))) (by lia) (lL (ep:=0) (.inr (by rw[etv];exact .head _)) (by lia) (jZ (by show 0+_≤_;lia) hk))))))
  rcases hk0 with⟨kt0,hg0⟩|⟨k0,kt0,hg0⟩
  ·refine xW (row o7.Z (eN [] (fG (List.replicate (dd+aO front) ([46,46],tokr+2)++p7)) (jK (List.replicate (dd+aO front) ([46,46],tokr+2)++p7) o7.V)) (Ba (.ref W) (.str (nm front) ft) (.int (dd:Int) tkd) (.ref la) (.str (nm []) ru) (.ref (szr+1)) (.str (nm ([]++fG (List.replicate (dd+aO front) ([46,46],tokr+2)++p7))) (aY [] (fG (List.replicate (dd+aO front) ([46,46],tokr+2)++p7)) ru (jT (List.replicate (dd+aO front) ([46,46],tokr+2)++p7) o7.V) (jK (List.replicate (dd+aO front) ([46,46],tokr+2)++p7) o7.V)))) front ft (by lia) (by lia)) fun oP tx szt tokt Xt psT w1 w2 w3 w4 w5 w6=>?_
   refine gB (pG w.params W epW ft mk mt ia epi szi toki ta la epl tkd szl tokl vsi.length zt ru szr tokr (dd+aO front) lv.length kt0 was vsi (dq lv) Xi Xl (dd:Int) front zl o6 o7 x6 x7 p6 (List.replicate (dd+aO front) ([46,46],tokr+2)++p7) (aO front:Int) ((dd+aO front:Nat):Int) oP tx szt tokt Xt Z V) fun R hR H hs htt hX=>?_
   have hans:=oh (Fn:=Fn) (X:=Xt) hR H hs htt hX (fun b o q=>.inr q) (w3.le (by lia)) (fun p hp=>by rw[List.mem_singleton] at hp;subst hp;show Z≤szt;lia) hkt (fun p hp=>by rw[List.mem_singleton] at hp;subst hp;exact hW) fun Fz hz=>by
    have hw:=w6 (aj (aj (aj (aj (aj Fz Xi) Xl) o6.X) cQ) o7.X) (hz.trans fun b o q=>.inl (.inl (.inl (.inl (.inl q))))) (fun b o q=>.inl (.inl (.inl (.inl (.inr q))))) (fun b o q=>.inl (.inl (.inl (.inr q))))
    exact pre [] true hz hr rfl (tail hz (ie (ep:=epl) (.inl (.inl (.inl (.inl (.inr l5))))) (by decide) (by decide) hg0.1 fun g=>⟨hw.1 g,pZ rfl (dO hw.2 trivial)⟩))
   refine hNN ⟨szt,(aY [] (fG (List.replicate (dd+aO front) ([46,46],tokr+2)++p7)) ru (jT (List.replicate (dd+aO front) ([46,46],tokr+2)++p7) o7.V) (jK (List.replicate (dd+aO front) ([46,46],tokr+2)++p7) o7.V)),.ref tx,_,szt+1,tokt,by lia,hans.1,?_,?_⟩
   ·rw[hg0.2]
    exact⟨tx,psT,rfl,.inl w4,by rw[w5,l3'];rw[if_pos hr]⟩
   ·rw[hpl]
    exact qL hans fun p hp=>by rw[List.mem_singleton] at hp;subst hp;exact .inr (.head _)
  ·refine dh ((rG w.params W epW ft mk mt ia epi szi toki ta la epl tkd szl tokl vsi.length zt ru szr tokr (dd+aO front) lv.length kt0 was vsi (dq lv) Xi Xl (dd:Int) front zl o6 o7 x6 x7 p6 (List.replicate (dd+aO front) ([46,46],tokr+2)++p7) (aO front:Int) ((dd+aO front:Nat):Int) k0 Z V).ex) fun R hR H hs htt=>?_
   have hans:=oh (Fn:=Fn) (X:=cQ) (Xf:=rF R) hR H hs htt rfl (Sub.no _) (aW.none _) (fun p hp=>by rw[List.mem_singleton] at hp;subst hp;show Z≤o7.Z+1;lia) hkt (fun p hp=>by rw[List.mem_singleton] at hp;subst hp;exact hW) fun Fz hz=>by
    exact pre [] true hz hr rfl (tail hz (ie (ep:=epl) (.inl (.inl (.inl (.inl (.inr l5))))) (by decide) (by decide) hg0.1 trivial))
   refine hNN ⟨o7.Z+1,(aY [] (fG (List.replicate (dd+aO front) ([46,46],tokr+2)++p7)) ru (jT (List.replicate (dd+aO front) ([46,46],tokr+2)++p7) o7.V) (jK (List.replicate (dd+aO front) ([46,46],tokr+2)++p7) o7.V)),(.str (nm fV) ((eN [] (fG (List.replicate (dd+aO front) ([46,46],tokr+2)++p7)) (jK (List.replicate (dd+aO front) ([46,46],tokr+2)++p7) o7.V))+3)),_,o7.Z+2,(eN [] (fG (List.replicate (dd+aO front) ([46,46],tokr+2)++p7)) (jK (List.replicate (dd+aO front) ([46,46],tokr+2)++p7) o7.V))+4,by lia,hans.1,?_,?_⟩
   rotate_left
   ·rw[hpl]
    exact qL hans fun p hp=>by rw[List.mem_singleton] at hp;subst hp;exact .inr (.head _)
   ·rw[hg0.2]
    exact⟨_,rfl⟩
 ·refine jd (comp7 (szr+1) (szr+2) (szr+3) (szr+4) (tokr+4)) fun x7 o7 p7 ho7 hv7 hp7 hans7=>?_
  have hj:cR [47] (aF p7)≤14000∧p7.length≤30:=hjoin 0 0 p7 (by lia) hp7
  have hjl:(fG p7).length≤14000:=Nat.le_trans (fj _ _) hj.1
  have hrl:(47::rr).length≤2:=by rw[←hr];exact xY front
  have etv:[]++o7.vs=tvs p7:=hv7
  have hpl:cU ws front mk=(47::rr)++fG p7:=by rw[hplain _ hr,if_neg (by simp),List.nil_append];unfold fG;rw[hp7]
  have tail:∀{Fz:bw} {kk:Ant},Sub Fn Fz→aA aH w J dr os (aj (aj (aj (aj (aj Fz Xi) Xl) o6.X) cQ) o7.X) kk→aA aH w J dr os (aj (aj (aj (aj Fz Xi) Xl) o6.X) cQ) (bc 14852 (bF (Z+2,bU (.ref o6.Z)) (bF (o6.Z,aa (lX mk mt p6 zl zt o6.V) (CG mk mt p6 zl zt o6.V)) (cC 900 (dK (Dl w.params) (Gg w.params Z (Z+2) (szr+3)) (szr+1) (szr+2)) vK (szr+3) (szr+1) la (szr+2) lv.length (some x7) o7))) (szr+4) (tokr+4) (dY 5120 [(szr,aa 0 []),((szr+2),aa o7.ep o7.vs)] szr (szr+2) [] o7.vs (dF 16384 [(o7.Z,aa 0 ([]++o7.vs))] [47] o7.Z p7 (dB (47::rr) (fG p7) kk)))):=fun {Fz kk} hz hk=>by
   have h7:([]:List Value).length≤60:=Nat.zero_le _
   have h8:o7.vs.length≤30:=by rw[hv7,aG];exact hj.2
   exact(dO (by rw[hTx];exact hans7 _ (hz.trans fun b o q=>.inl (.inl (.inl (.inl q)))) (fun b o q=>.inl (.inl (.inr q)))) (nq (.inr (.head _)) (.inr (.tail _ (.head _))) (by lia) (lL (ep:=0) (.inr (by rw[etv];exact .head _)) (by lia) (jZ (by lia) hk))))
  rcases hk0 with⟨kt0,hg0⟩|⟨k0,kt0,hg0⟩
  ·refine xW (row o7.Z (eN (47::rr) (fG p7) (jK p7 o7.V)) (Ba (.ref W) (.str (nm front) ft) (.int (dd:Int) tkd) (.ref la) (.str (nm (47::rr)) ru) (.ref szr) (.str (nm ((47::rr)++fG p7)) (aY (47::rr) (fG p7) ru (jT p7 o7.V) (jK p7 o7.V)))) (47::rr) ru (by lia) (by lia)) fun oP tx szt tokt Xt psT w1 w2 w3 w4 w5 w6=>?_
   refine gB (pQ w.params W epW ft mk mt ia epi szi toki ta la epl tkd szl tokl vsi.length zt ru szr tokr 0 lv.length kt0 was vsi (dq lv) Xi Xl (dd:Int) front zl o6 o7 x6 x7 p6 p7 rr oP tx szt tokt Xt Z V) fun R hR H hs htt hX=>?_
   have hans:=oh (Fn:=Fn) (X:=Xt) hR H hs htt hX (fun b o q=>.inr q) (w3.le (by lia)) (fun p hp=>by rw[List.mem_singleton] at hp;subst hp;show Z≤szt;lia) hkt (fun p hp=>by rw[List.mem_singleton] at hp;subst hp;exact hW) fun Fz hz=>by
    have hw:=w6 (aj (aj (aj (aj (aj Fz Xi) Xl) o6.X) cQ) o7.X) (hz.trans fun b o q=>.inl (.inl (.inl (.inl (.inl q))))) (fun b o q=>.inl (.inl (.inl (.inl (.inr q))))) (fun b o q=>.inl (.inl (.inl (.inr q))))
    exact pre (47::rr) false hz hr rfl (tail hz (ie (ep:=epl) (.inl (.inl (.inl (.inl (.inr l5))))) (by decide) (by decide) hg0.1 fun g=>⟨hw.1 g,pZ rfl (dO hw.2 trivial)⟩))
   refine hNN ⟨szt,(aY (47::rr) (fG p7) ru (jT p7 o7.V) (jK p7 o7.V)),.ref tx,_,szt+1,tokt,by lia,hans.1,?_,?_⟩
   ·rw[hg0.2]
    exact⟨tx,psT,rfl,.inl w4,by rw[w5,l3'];rw[if_neg (by rw[hr];simp),hr]⟩
   ·rw[hpl]
    exact qL hans fun p hp=>by rw[List.mem_singleton] at hp;subst hp;exact .inr (.head _)
  ·refine dh ((rR w.params W epW ft mk mt ia epi szi toki ta la epl tkd szl tokl vsi.length zt ru szr tokr 0 lv.length kt0 was vsi (dq lv) Xi Xl (dd:Int) front zl o6 o7 x6 x7 p6 p7 rr k0 Z V).ex) fun R hR H hs htt=>?_
   have hans:=oh (Fn:=Fn) (X:=cQ) (Xf:=rF R) hR H hs htt rfl (Sub.no _) (aW.none _) (fun p hp=>by rw[List.mem_singleton] at hp;subst hp;show Z≤o7.Z+1;lia) hkt (fun p hp=>by rw[List.mem_singleton] at hp;subst hp;exact hW) fun Fz hz=>by
    exact pre (47::rr) false hz hr rfl (tail hz (ie (ep:=epl) (.inl (.inl (.inl (.inl (.inr l5))))) (by decide) (by decide) hg0.1 trivial))
   refine hNN ⟨o7.Z+1,(aY (47::rr) (fG p7) ru (jT p7 o7.V) (jK p7 o7.V)),(.str (nm fV) ((eN (47::rr) (fG p7) (jK p7 o7.V))+3)),_,o7.Z+2,(eN (47::rr) (fG p7) (jK p7 o7.V))+4,by lia,hans.1,?_,?_⟩
   rotate_left
   ·rw[hpl]
    exact qL hans fun p hp=>by rw[List.mem_singleton] at hp;subst hp;exact .inr (.head _)
   ·rw[hg0.2]
    exact⟨_,rfl⟩
end
end
section
open Sem (wp)
noncomputable def qH (ts:Array Value):Obj:={cls:=.type "traceback",dict:=none,data:=.fields ts,slots:=#[]}
section
variable {w:World} {J:Array GenState} {dr:Drawn} {os:Osw} {F:bw} {led led' fr:Led} {Z V:Nat}
theorem Es {s:Shared}{env le:Env}{es:List Env}{fr rest:Led}{pw:Addr×Obj}(hes:(env::es).map (·.frame)=fr.map (fun p=>some p.1))(hdat:∀p∈fr,∀vs,p.2.data≠.fields vs)(hpw:pw∈os.W)(hle:le.frame=some pw.1)(hpd:∀vs,pw.2.data≠.fields vs)(hk:∀x∈env::es++[le],x.scope.kind≠.module)(r:Rel F J dr os (fr++rest) Z V s):s.heap.FunFrames {} (env::es++[le]):=by
 refine uZ (fs:=fr++[pw]) (fun p hp=>?_) ?_ hk
 ·rcases List.mem_append.mp hp with z|z
  ·exact⟨p.2.slots,r.own p (List.mem_append_left _ z),hdat p z⟩
  ·rw[List.mem_singleton.mp z]
   obtain⟨⟨sl,x⟩,_⟩:=r.wf pw hpw
   exact⟨sl,x,hpd⟩
 ·rw[List.map_append,List.map_append,hes]
  show _++[le.frame]=_++[some pw.1]
  rw[hle]
theorem jA {s:Shared}{env le:Env}{es:List Env}{fr rest:Led}{pw:Addr×Obj}{h1:Heap}(hes:(env::es).map (·.frame)=fr.map (fun p=>some p.1))(hpw:pw∈os.W)(hle:le.frame=some pw.1)(r:Rel F J dr os (fr++rest) Z V s)(hs1:Heap.SlotsOnly ((env::es++[le]).filterMap (·.frame)) s.heap h1):∃fr',SlEq fr fr'∧Rel F J dr os (fr'++rest) Z V {s with heap:=h1}:=
 r.slots (S:=(env::es++[le]).filterMap (·.frame)) (fun b hb=>by
  refine aL (List.mem_filterMap.mp hb) fun x hx hxe=>?_
  rcases List.mem_append.mp hx with z|z
  ·left
   have:some b∈(env::es).map (·.frame):=List.mem_map.mpr ⟨x,z,hxe⟩
   rw[hes] at this
   refine aL (List.mem_map.mp this) fun p hp e2=>?_
   injection e2 with e2
   exact List.mem_map.mpr ⟨p,hp,e2⟩
  ·right
   rw[List.mem_singleton.mp z,hle] at hxe
   injection hxe with hxe
   exact List.mem_map.mpr ⟨pw,hpw,hxe⟩) hs1
theorem n8 {v:Value}{L:Nat}{pl:List Value}(hpl:IsPlace pl):∃ts:Array Value,([v,.ref L,.none,rawInt L,.none]++(if pl.isEmpty then List.replicate 6 Value.none else pl)).toArray=ts∧ts.size=11∧ts[3]?=some (rawInt L):=by
 refine⟨_,rfl,?_,?_⟩
 ·rcases hpl with rfl|⟨a,b,c,d,c9,b10,_,rfl⟩<;>rfl
 ·rcases hpl with rfl|⟨a,b,c,d,c9,b10,_,rfl⟩<;>rfl
theorem Kd {A:Around}{E:Value→Shared→Prop}{s:Shared}{env le:Env}{es:List Env}{L e:Nat}{fr:Led}{pw:Addr×Obj}{cls:String}{a:Value}{Q:Unit→Shared→Prop}(hfr:A.frames=some (env::es++[le]))(hL:env.frame=some L)(hes:(env::es).map (·.frame)=fr.map (fun p=>some p.1))(hdat:∀p∈fr,∀vs,p.2.data≠.fields vs)(hpw:pw∈os.W)(hle:le.frame=some pw.1)(hpd:∀vs,pw.2.data≠.fields vs)(hk:∀x∈env::es++[le],x.scope.kind≠.module)(r:Rel F J dr os (fr++(e,cN cls a .none)::led) Z V s)(h:∀s' fr' ts,SlEq fr fr'→ts.size=11→ts[3]?=some (rawInt L)→Rel F J dr os (fr'++(e,cN cls a (.ref Z))::(Z,qH ts)::led) (Z+1) V s'→Q () s'):wpAny (model aH w) A (noteFrame (.ref e) env) Q E s:=by
 have he:=r.own (e,cN cls a .none) (List.mem_append_right _ (.head _))
 unfold noteFrame
 simp only[hL]
 refine wpAny_bind (wpAny_field he (x:=.none) rfl rfl ?_)
 rw[if_neg (by decide)]
 refine wpAny_bind (wpAny_frameOf_fun hfr (Es hes hdat hpw hle hpd hk r) hL fun h1 hs1=>?_)
 refine aL (jA hes hpw hle r hs1) fun fr' hsl r1=>?_
 refine wpAny_bind (wpAny_entryPlaceOf fun pl hpl=>?_)
 unfold EntryCells.newEntry newFields
 refine wpAny_bind (wpAny_newObj_type ?_ (hpl.sizeOk5 _ _ _ _ _))
 have r2:=r1.push (o:={cls:=.type "traceback",dict:=none,data:=.fields ([Value.none,.ref L,.none,rawInt L,.none]++(if pl.isEmpty then List.replicate 6 Value.none else pl)).toArray}) rfl
 refine cj (n8 (v:=.none) (L:=L) hpl) fun ts hts h11 h3=>?_
 rw[hts] at r2 ⊢
 have hsz1:(⟨h1,s.gens,s.drawn,s.toks,s.os⟩:Shared).heap.objs.size=Z:=r1.size
 have he2:=r2.own (e,cN cls a .none) (List.mem_append_left _ (List.mem_append_right _ (.head _)))
 refine wpAny_setField he2 (vs:=⟨[a,.none,.none,.none,.bool false,.none]⟩) rfl (show 1<6 by lia) ?_
 have r3:=r2.upd (i:=fr'.length) (p:=(e,cN cls a .none)) (f:=Obj.mapFields (·.setIfInBounds 1 (.ref h1.objs.size))) (by rw[List.append_assoc];exact lB fr' _ _) rfl
 rw[List.append_assoc,List.cons_append,lq] at r3
 have ee:Obj.mapFields (·.setIfInBounds 1 (.ref h1.objs.size)) (cN cls a .none)=cN cls a (.ref Z):=by
  have:h1.objs.size=Z:=hsz1
  rw[this];rfl
 rw[show((e,cN cls a .none):Addr×Obj).2=cN cls a .none from rfl,ee] at r3
 refine h _ fr' ts hsl h11 h3 (r3.perm (List.Perm.append_left fr' (.cons _ ?_)))
 exact List.perm_append_comm (l₁:=led) (l₂:=[_])
theorem Hg {A:Around}{E:Value→Shared→Prop}{s:Shared}{env le:Env}{es:List Env}{L e:Nat}{fr:Led}{pw:Addr×Obj}{cls:String}{a:Value}{Q:Unit→Shared→Prop}(hfr:A.frames=some (env::es++[le]))(hL:env.frame=some L)(hes:(env::es).map (·.frame)=fr.map (fun p=>some p.1))(hdat:∀p∈fr,∀vs,p.2.data≠.fields vs)(hpw:pw∈os.W)(hle:le.frame=some pw.1)(hpd:∀vs,pw.2.data≠.fields vs)(hk:∀x∈env::es++[le],x.scope.kind≠.module)(r:Rel F J dr os (fr++(e,cN cls a .none)::led) Z V s)(h:∀s' fr' ts,SlEq fr fr'→ts.size=11→ts[3]?=some (rawInt L)→Rel F J dr os (fr'++(e,cN cls a (.ref Z))::(Z,qH ts)::led) (Z+1) V s'→Q () s'):wpAny (model aH w) A (kY env (.ref e)) Q E s:=
 wpAny_bind (Kd hfr hL hes hdat hpw hle hpd hk r fun s' fr' ts h1 h2 h3 h4=>wpAny_theTreesLotGoes (h s' fr' ts h1 h2 h3 h4))
theorem Dy {A:Around}{E:Value→Shared→Prop}{s:Shared}{env:Env}{L e t:Nat}{fr:Led}{cls:String}{a:Value}{ts:Array Value}{Q:Unit→Shared→Prop}(hL:env.frame=some L)(h11:ts.size=11)(h3:ts[3]?=some (rawInt L))(r:Rel F J dr os (fr++(e,cN cls a (.ref t))::(t,qH ts)::led) Z V s)(h:∀s' ts',ts'.size=11→ts'[3]?=some .none→Rel F J dr os (fr++(e,cN cls a (.ref t))::(t,qH ts')::led) Z V s'→Q () s'):wpAny (model aH w) A (leaving env (.ref e)) Q E s:=by
 have he:=r.own (e,cN cls a (.ref t)) (List.mem_append_right _ (.head _))
 have ht:=r.own (t,qH ts) (List.mem_append_right _ (.tail _ (.head _)))
 unfold leaving noteFrame
 simp only[hL]
 refine wpAny_bind (wpAny_bind (wpAny_field he (x:=.ref t) rfl rfl ?_))
 rw[if_pos (show(Value.ref t != Value.none)=true from by simp)]
 refine wpAny_bind (wpAny_field ht (x:=rawInt L) rfl h3 ?_)
 rw[if_pos (by exact beq_self_eq_true (α:=Value) (rawInt L))]
 refine wpAny_pure ?_
 unfold setFlight
 refine wpAny_bind (wpAny_field he (x:=.ref t) rfl rfl ?_)
 rw[if_pos (show(Value.ref t != Value.none)=true from by simp)]
 refine wpAny_setField ht rfl (by lia) ?_
 have e1:fr++(e,cN cls a (.ref t))::(t,qH ts)::led=(fr++[(e,cN cls a (.ref t))])++(t,qH ts)::led:=by simp
 rw[e1] at r
 have r2:=r.upd (i:=(fr++[(e,cN cls a (.ref t))]).length) (p:=(t,qH ts)) (f:=Obj.mapFields (·.setIfInBounds 3 ((none:Option Addr).elim Value.none fun f=>rawInt f))) (lB _ _ _) rfl
 rw[lq] at r2
 refine h _ (ts.setIfInBounds 3 .none) (by rw[Array.size_setIfInBounds];exact h11) (by rw[Array.getElem?_setIfInBounds_self_of_lt (by lia)]) ?_
 have e2:fr++(e,cN cls a (.ref t))::(t,qH (ts.setIfInBounds 3 .none))::led=(fr++[(e,cN cls a (.ref t))])++(t,qH (ts.setIfInBounds 3 .none))::led:=by simp
 rw[e2]
 exact r2
theorem xV {A:Around}{E:Value→Shared→Prop}{s:Shared}{env le:Env}{es:List Env}{L e t:Nat}{fr:Led}{pw:Addr×Obj}{cls:String}{a:Value}{ts:Array Value}{Q:Unit→Shared→Prop}(hfr:A.frames=some (env::es++[le]))(hL:env.frame=some L)(hes:(env::es).map (·.frame)=fr.map (fun p=>some p.1))(hdat:∀p∈fr,∀vs,p.2.data≠.fields vs)(hpw:pw∈os.W)(hle:le.frame=some pw.1)(hpd:∀vs,pw.2.data≠.fields vs)(hk:∀x∈env::es++[le],x.scope.kind≠.module)(h11:ts.size=11)(h3:ts[3]?=some .none)(r:Rel F J dr os (fr++(e,cN cls a (.ref t))::(t,qH ts)::led) Z V s)(h:∀s' fr' ts',SlEq fr fr'→ts'.size=11→ts'[3]?=some .none→Rel F J dr os (fr'++(e,cN cls a (.ref Z))::(Z,qH ts')::led) (Z+1) V s'→Q () s'):wpAny (model aH w) A (leaving env (.ref e)) Q E s:=by
 have he:=r.own (e,cN cls a (.ref t)) (List.mem_append_right _ (.head _))
 have ht:=r.own (t,qH ts) (List.mem_append_right _ (.tail _ (.head _)))
 unfold leaving noteFrame
 simp only[hL]
 refine wpAny_bind (wpAny_bind (wpAny_field he (x:=.ref t) rfl rfl ?_))
 rw[if_pos (show(Value.ref t != Value.none)=true from by simp)]
 refine wpAny_bind (wpAny_field ht (x:=.none) rfl h3 ?_)
 rw[if_neg (by intro q;cases q)]
 refine wpAny_bind (wpAny_setField ht rfl (by show 3<ts.size;lia) ?_)
 have e1:fr++(e,cN cls a (.ref t))::(t,qH ts)::led=(fr++[(e,cN cls a (.ref t))])++(t,qH ts)::led:=by simp
 rw[e1] at r
 have r0:=r.upd (i:=(fr++[(e,cN cls a (.ref t))]).length) (p:=(t,qH ts)) (f:=Obj.mapFields (·.setIfInBounds 3 .none)) (lB _ _ _) rfl
 rw[lq] at r0
 have e2:(fr++[(e,cN cls a (.ref t))])++(t,qH (ts.setIfInBounds 3 .none))::led=fr++(e,cN cls a (.ref t))::(t,qH (ts.setIfInBounds 3 .none))::led:=by simp
 have r0':=(e2▸r0:Rel F J dr os (fr++(e,cN cls a (.ref t))::(t,qH (ts.setIfInBounds 3 .none))::led) Z V _)
 refine wpAny_bind (wpAny_frameOf_fun hfr (Es hes hdat hpw hle hpd hk r0') hL fun h1 hs1=>?_)
 refine aL (jA hes hpw hle r0' hs1) fun fr' hsl r1=>?_
 refine wpAny_bind (wpAny_entryPlaceOf fun pl hpl=>?_)
 unfold EntryCells.newEntry newFields
 refine wpAny_bind (wpAny_newObj_type ?_ (hpl.sizeOk5 _ _ _ _ _))
 have r2:=r1.push (o:={cls:=.type "traceback",dict:=none,data:=.fields ([Value.ref t,.ref L,.none,rawInt L,.none]++(if pl.isEmpty then List.replicate 6 Value.none else pl)).toArray}) rfl
 refine cj (n8 (v:=.ref t) (L:=L) hpl) fun tn hts k11 k3=>?_
 rw[hts] at r2 ⊢
 have hsz1:(⟨h1,s.gens,s.drawn,s.toks,s.os⟩:Shared).heap.objs.size=Z:=r1.size
 have he2:=r2.own (e,cN cls a (.ref t)) (List.mem_append_left _ (List.mem_append_right _ (.head _)))
 refine wpAny_setField he2 (vs:=⟨[a,.ref t,.none,.none,.bool false,.none]⟩) rfl (show 1<6 by lia) ?_
 have r3:=r2.upd (i:=fr'.length) (p:=(e,cN cls a (.ref t))) (f:=Obj.mapFields (·.setIfInBounds 1 (.ref h1.objs.size))) (by rw[List.append_assoc];exact lB fr' _ _) rfl
 rw[List.append_assoc,List.cons_append,lq] at r3
 have ee:Obj.mapFields (·.setIfInBounds 1 (.ref h1.objs.size)) (cN cls a (.ref t))=cN cls a (.ref Z):=by
  have:h1.objs.size=Z:=hsz1
  rw[this];rfl
 rw[show((e,cN cls a (.ref t)):Addr×Obj).2=cN cls a (.ref t) from rfl,ee] at r3
 unfold setFlight
 have he3:=r3.own (e,cN cls a (.ref Z)) (List.mem_append_right _ (.head _))
 refine wpAny_bind (wpAny_field he3 (x:=.ref Z) rfl rfl ?_)
 rw[if_pos (show(Value.ref Z != Value.none)=true from by simp)]
 have ht3:=r3.own (Z,{cls:=.type "traceback",dict:=none,data:=.fields tn}) (List.mem_append_right _ (.tail _ (List.mem_append_right _ (.head _))))
 refine wpAny_setField ht3 rfl (by lia) ?_
 have r3':=r3.reassoc
 have r4:=r3'.upd (i:=(fr'++(e,cN cls a (.ref Z))::((t,qH (ts.setIfInBounds 3 .none))::led)).length) (p:=(Z,{cls:=.type "traceback",dict:=none,data:=.fields tn})) (f:=Obj.mapFields (·.setIfInBounds 3 ((none:Option Addr).elim Value.none fun f=>rawInt f)))
  (lB (fr'++(e,cN cls a (.ref Z))::((t,qH (ts.setIfInBounds 3 .none))::led)) (Z,{cls:=.type "traceback",dict:=none,data:=.fields tn}) []) rfl
 rw[lq] at r4
 refine h _ fr' (tn.setIfInBounds 3 .none) hsl (by rw[Array.size_setIfInBounds];exact k11) (by rw[Array.getElem?_setIfInBounds_self_of_lt (by lia)]) ?_
 have r5:=r4.perm (led':=(fr'++(e,cN cls a (.ref Z))::(Z,qH (tn.setIfInBounds 3 .none))::led)++[(t,qH (ts.setIfInBounds 3 .none))]) (by
  rw[List.append_assoc,List.append_assoc]
  refine List.Perm.append_left fr' (.cons _ ?_)
  refine(List.perm_append_comm (l₁:=(t,qH (ts.setIfInBounds 3 .none))::led) (l₂:=[_])).trans (.cons _ ?_)
  exact List.perm_append_comm (l₁:=[_]) (l₂:=led))
 exact r5.drop
end
end
section
section
variable {w:World} {J:Array GenState} {dr:Drawn} {os:Osw} {F:bw}
noncomputable def jk:LS→List Nat→List Nat→Bool→Option (Nat×List Nat×Bool)
 |.qt x,[],tk,q=>some (x,tk,q)
 |.sp,[],_,_=>none
 |.wd,[],_,_=>none
 |.fin,_,_,_=>none
 |.sp,c::r,tk,q=>if oK c then jk .sp r tk q else if gG c then jk (.qt c) r tk q else jk .wd r [c] q
 |.wd,c::r,tk,q=>if oK c then none else if gG c then jk (.qt c) r tk q else jk .wd r (tk++[c]) q
 |.qt x,c::r,tk,_=>if c==x then jk .wd r tk true else jk (.qt x) r (tk++[c]) true
theorem Xz {lim n h:Nat}{c c' c2:Code}{led vW:Led}{Z V m:Nat}{ant:Ant}{R:Res}{S:Type}{L':S→Led}{z t:S→Nat}(hR:run w.params lim n h c led Z V [] ant=R)(H:vw R m=(true,true,.again c',vW,rights (cH R)))(hq:c'.quiet=true)(hant:∀Fz:bw,(∀b o,KF w.params b o→Fz b o)→aA aH w J dr os Fz ant)(K:∃s',∀Fz:bw,(∀b o,KF w.params b o→Fz b o)→jm w J dr os lim c' Fz vW (dw R) (bk R) c2 Fz (L' s') (z s') (t s')):
  ∃s',∀Fz:bw,(∀b o,KF w.params b o→Fz b o)→jm w J dr os lim c Fz led Z V c2 Fz (L' s') (z s') (t s'):=by
 obtain⟨s',K⟩:=K
 refine⟨s',fun Fz hF=>?_⟩
 have h1:=(Gs (J:=J) (dr:=dr) (os:=os) (F:=Fz) hR H hq hF (fun _ h=>(nomatch h)) (hant Fz hF)).post fun s r=>r.anti fun b o h=>.inl (.inl h)
 exact h1.trans (K Fz hF)
theorem dj {lim n h:Nat}{c c' c2:Code}{led:Led}{Z V m:Nat}{ant:Ant}{L:Res→Led}{S:Type}{L':S→Led}{z t:S→Nat}(f:Fb (run w.params lim n h c led Z V [] ant) m (.again c') L)(hq:c'.quiet=true)(hant:∀Fz:bw,(∀b o,KF w.params b o→Fz b o)→aA aH w J dr os Fz ant)(K:∀R:Res,∃s',∀Fz:bw,(∀b o,KF w.params b o→Fz b o)→jm w J dr os lim c' Fz (L R) (dw R) (bk R) c2 Fz (L' s') (z s') (t s')):
  ∃s',∀Fz:bw,(∀b o,KF w.params b o→Fz b o)→jm w J dr os lim c Fz led Z V c2 Fz (L' s') (z s') (t s'):=by
 refine aL f.ex fun R hR H=>?_
 exact Xz hR H hq hant (K R)
noncomputable abbrev Ud (w:World)(J:Array GenState)(dr:Drawn)(os:Osw)(X:Adr)(l:List Nat)(first:Bool)(st:LS)(tk:List Nat)(q:Bool)(i:Nat)(s:LxS)(o:Nat×List Nat×Bool):Prop:=
 ∃s':LxS,∀Fz:bw,(∀b o,KF w.params b o→Fz b o)→jm w J dr os 600 (jJ w.params X.fa) Fz (zq X s first st tk q l i) s.Z s.V (jJ w.params X.fa) Fz (zq X s' false (.qt o.1) o.2.1 o.2.2 l l.length) s'.Z s'.V
theorem Eh (X:Adr)(l:List Nat)(hl:l.length≤50000):∀(rest:List Nat) (i:Nat) (first:Bool) (st:LS) (tk:List Nat) (q:Bool) (s:LxS) (o:Nat×List Nat×Bool),
  l.drop i=rest→i≤l.length→tk.length≤i→(∀c∈rest,c≠92)→(st=.fin→rest=[])→Inv first st tk q→jk st rest tk q=some o→Ud w J dr os X l first st tk q i s o
 |[],i,first,st,tk,q,s,o,hdrop,hi,htk,hesc,hfin,hinv,ho=>by
  have hpos:i=l.length:=by
   have:l.length≤i:=by
    apply Nat.le_of_not_lt
    intro q
    rw[List.drop_eq_getElem_cons q] at hdrop
    cases hdrop
   lia
  subst hpos
  cases st with
  |qt x=>
   obtain⟨rfl,hx⟩:=hinv
   cases ho
   exact⟨s,fun Fz hF A hA hU hh R K s' r'=>K s' r'⟩
  |fin=>cases ho
  |sp=>cases ho
  |wd=>cases ho
 |c::rest,i,first,st,tk,q,s,o,hdrop,hi,htk,hesc,hfin,hinv,ho=>by
  obtain⟨rd,hrd⟩:=Gi (w:=w) (J:=J) (dr:=dr) (os:=os) l (by lia) i hi
  refine cg (iy hdrop) fun e1 e2 hi' hdrop'=>?_
  rw[e1,e2] at hrd
  have hesc':∀c∈rest,c≠92:=fun d hd=>hesc d (.tail _ hd)
  have h92:decide (c∈qK.cps.toList)=false:=decide_eq_false (by
   have:=hesc c (.head _)
   show c∉[92]
   simpa using this)
  have hE:decide (c∈(nm []).cps.toList)=false:=rfl
  have IH:=fun first st tk q s o ht hf hv h=>Eh X l hl rest (i+1) first st tk q s o hdrop' hi' ht hesc' hf hv h
  have hS:∀{b},oK c=b→decide (c∈eY.cps.toList)=b:=fun h=>h
  have hQ:∀{b},gG c=b→decide (c∈eX.cps.toList)=b:=fun h=>h
  have nx:∀{R:Res} {ln:Int} {oc:Str},True:=trivial
  cases st with
  |fin=>cases hfin rfl
  |sp=>
   obtain⟨rfl,rfl⟩:=hinv
   unfold jk at ho
   cases hsp:oK c with
   |true=>
    rw[hsp,if_pos rfl] at ho
    cases hn:(c==10) with
    |true=>
     cases first with
     |true=>
      exact dj (By w.params rd s.k0 s.k1 s.k3 s.t0 s.t1 s.t3 X.fa X.da X.sa X.ba X.ia X.p1 X.p2 s.st0 (nm l) i (i+1:Nat) (nm []) s.ln false (nm [c]) s.Z s.V) (bI _ _) (fun Fz hF=>bK hF hrd (dJ hn (bR (aD (hS hsp) (bY rfl oF trivial))))) fun R=>
       (IH false .sp [] false ⟨ak R 0,ak R 1,ak R 3,aq R 0,aq R 1,aq R 3,aq R 1 11,nm [c],s.ln+1,dw R,bk R⟩ o (Nat.zero_le _) (fun e=>nomatch e) ⟨rfl,rfl⟩ ho)
     |false=>
      exact dj (CX w.params rd s.k0 s.k1 s.k3 s.t0 s.t1 s.t3 X.fa X.da X.sa X.ba X.ia X.p1 X.p2 s.st0 (nm l) i (i+1:Nat) (nm []) s.ln false s.oc (nm [c]) s.Z s.V) (bI _ _) (fun Fz hF=>bK hF hrd (dJ hn (bR (aD (hS hsp) (bY rfl oF trivial))))) fun R=>
       (IH false .sp [] false ⟨ak R 0,ak R 1,ak R 3,aq R 0,aq R 1,aq R 3,aq R 1 11,nm [c],s.ln+1,dw R,bk R⟩ o (Nat.zero_le _) (fun e=>nomatch e) ⟨rfl,rfl⟩ ho)
    |false=>
     cases first with
     |true=>
      exact dj (Bl w.params rd s.k0 s.k1 s.k3 s.t0 s.t1 s.t3 X.fa X.da X.sa X.ba X.ia X.p1 X.p2 s.st0 (nm l) i (i+1:Nat) (nm []) s.ln false (nm [c]) s.Z s.V) (bI _ _) (fun Fz hF=>bK hF hrd (dJ hn (bR (aD (hS hsp) (bY rfl oF trivial))))) fun R=>
       (IH false .sp [] false ⟨ak R 0,ak R 1,ak R 3,aq R 0,aq R 1,aq R 3,aq R 1 11,nm [c],s.ln,dw R,bk R⟩ o (Nat.zero_le _) (fun e=>nomatch e) ⟨rfl,rfl⟩ ho)
     |false=>
      exact dj (CJ w.params rd s.k0 s.k1 s.k3 s.t0 s.t1 s.t3 X.fa X.da X.sa X.ba X.ia X.p1 X.p2 s.st0 (nm l) i (i+1:Nat) (nm []) s.ln false s.oc (nm [c]) s.Z s.V) (bI _ _) (fun Fz hF=>bK hF hrd (dJ hn (bR (aD (hS hsp) (bY rfl oF trivial))))) fun R=>
       (IH false .sp [] false ⟨ak R 0,ak R 1,ak R 3,aq R 0,aq R 1,aq R 3,aq R 1 11,nm [c],s.ln,dw R,bk R⟩ o (Nat.zero_le _) (fun e=>nomatch e) ⟨rfl,rfl⟩ ho)
   |false=>
    have hn:(c==10)=false:=by
     cases q:(c==10) with
     |false=>rfl
     |true=>rw[eq_of_beq q] at hsp;cases hsp
    rw[hsp,if_neg (by simp)] at ho
    cases hqt:gG c with
    |true=>
     rw[hqt,if_pos rfl] at ho
     have hw:decide (c∈g8.cps.toList)=false:=by
      have:c∈[39,34]:=of_decide_eq_true hqt
      simp only[List.mem_cons,List.not_mem_nil,or_false] at this
      rcases this with rfl|rfl<;>decide
     cases first with
     |true=>
      exact dj (CK w.params rd s.k0 s.k1 s.k3 s.t0 s.t1 s.t3 X.fa X.da X.sa X.ba X.ia X.p1 X.p2 s.st0 (nm l) i (i+1:Nat) (nm []) s.ln false (nm [c]) s.Z s.V) (bI _ _) (fun Fz hF=>bK hF hrd (dJ hn (bR (aD (hS hsp) (aD hE (aD h92 (aD hw (aD hE (aD (hQ hqt) trivial))))))))) fun R=>
       (IH false (.qt c) [] false ⟨ak R 0,ak R 1,ak R 3,aq R 0,aq R 1,aq R 3,aq R 1 11,nm [c],s.ln,dw R,bk R⟩ o (Nat.zero_le _) (fun e=>nomatch e) ⟨rfl,hqt⟩ ho)
     |false=>
      exact dj (Cm w.params rd s.k0 s.k1 s.k3 s.t0 s.t1 s.t3 X.fa X.da X.sa X.ba X.ia X.p1 X.p2 s.st0 (nm l) i (i+1:Nat) (nm []) s.ln false s.oc (nm [c]) s.Z s.V) (bI _ _) (fun Fz hF=>bK hF hrd (dJ hn (bR (aD (hS hsp) (aD hE (aD h92 (aD hw (aD hE (aD (hQ hqt) trivial))))))))) fun R=>
       (IH false (.qt c) [] false ⟨ak R 0,ak R 1,ak R 3,aq R 0,aq R 1,aq R 3,aq R 1 11,nm [c],s.ln,dw R,bk R⟩ o (Nat.zero_le _) (fun e=>nomatch e) ⟨rfl,hqt⟩ ho)
    |false=>
     rw[hqt,if_neg (by simp)] at ho
     cases hw:decide (c∈g8.cps.toList) with
     |true=>
      cases first with
      |true=>
       exact dj (Dh w.params rd s.k0 s.k1 s.k3 s.t0 s.t1 s.t3 X.fa X.da X.sa X.ba X.ia X.p1 X.p2 s.st0 (nm l) i (i+1:Nat) (nm []) s.ln false (nm [c]) s.Z s.V) (bI _ _) (fun Fz hF=>bK hF hrd (dJ hn (bR (aD (hS hsp) (aD hE (aD h92 (aD hw trivial))))))) fun R=>
        (IH false .wd [c] false ⟨ak R 0,ak R 1,ak R 3,aq R 0,aq R 1,aq R 3,aq R 1 11,nm [c],s.ln,dw R,bk R⟩ o (by show 1≤i+1;lia) (fun e=>nomatch e) ⟨rfl,.inl (by simp)⟩ ho)
      |false=>
       exact dj (CV w.params rd s.k0 s.k1 s.k3 s.t0 s.t1 s.t3 X.fa X.da X.sa X.ba X.ia X.p1 X.p2 s.st0 (nm l) i (i+1:Nat) (nm []) s.ln false s.oc (nm [c]) s.Z s.V) (bI _ _) (fun Fz hF=>bK hF hrd (dJ hn (bR (aD (hS hsp) (aD hE (aD h92 (aD hw trivial))))))) fun R=>
        (IH false .wd [c] false ⟨ak R 0,ak R 1,ak R 3,aq R 0,aq R 1,aq R 3,aq R 1 11,nm [c],s.ln,dw R,bk R⟩ o (by show 1≤i+1;lia) (fun e=>nomatch e) ⟨rfl,.inl (by simp)⟩ ho)
     |false=>
      cases first with
      |true=>
       exact dj (BL w.params rd s.k0 s.k1 s.k3 s.t0 s.t1 s.t3 X.fa X.da X.sa X.ba X.ia X.p1 X.p2 s.st0 (nm l) i (i+1:Nat) (nm []) s.ln false (nm [c]) s.Z s.V) (bI _ _) (fun Fz hF=>bK hF hrd (dJ hn (bR (aD (hS hsp) (aD hE (aD h92 (aD hw (aD hE (aD (hQ hqt) trivial))))))))) fun R=>
        (IH false .wd [c] false ⟨ak R 0,ak R 1,ak R 3,aq R 0,aq R 1,aq R 3,aq R 1 11,nm [c],s.ln,dw R,bk R⟩ o (by show 1≤i+1;lia) (fun e=>nomatch e) ⟨rfl,.inl (by simp)⟩ ho)
      |false=>
       exact dj (CQ w.params rd s.k0 s.k1 s.k3 s.t0 s.t1 s.t3 X.fa X.da X.sa X.ba X.ia X.p1 X.p2 s.st0 (nm l) i (i+1:Nat) (nm []) s.ln false s.oc (nm [c]) s.Z s.V) (bI _ _) (fun Fz hF=>bK hF hrd (dJ hn (bR (aD (hS hsp) (aD hE (aD h92 (aD hw (aD hE (aD (hQ hqt) trivial))))))))) fun R=>
        (IH false .wd [c] false ⟨ak R 0,ak R 1,ak R 3,aq R 0,aq R 1,aq R 3,aq R 1 11,nm [c],s.ln,dw R,bk R⟩ o (by show 1≤i+1;lia) (fun e=>nomatch e) ⟨rfl,.inl (by simp)⟩ ho)
  |qt x=>
   obtain⟨rfl,hx⟩:=hinv
   unfold jk at ho
   have hx32:(x==32)=false:=by
    have:x∈[39,34]:=of_decide_eq_true hx
    simp only[List.mem_cons,List.not_mem_nil,or_false] at this
    rcases this with rfl|rfl<;>rfl
   have hxq:decide (x∈eX.cps.toList)=true:=hx
   cases hc:(c==x) with
   |true=>
    rw[hc,if_pos rfl] at ho
    have hn:(c==10)=false:=by
     have:x∈[39,34]:=of_decide_eq_true hx
     simp only[List.mem_cons,List.not_mem_nil,or_false] at this
     rw[eq_of_beq hc]
     rcases this with rfl|rfl<;>rfl
    exact dj (Gf w.params rd s.k0 s.k1 s.k3 s.t0 s.t1 s.t3 X.fa X.da X.sa X.ba X.ia X.p1 X.p2 s.st0 (nm l) i (i+1:Nat) (nm tk) s.ln q s.oc (nm [c]) (nm [x]) s.Z s.V) (bI _ _) (fun Fz hF=>bK hF hrd (dJ hn (gk hx32 (aD hxq (bR (gk hc trivial)))))) fun R=>
     (IH false .wd tk true ⟨ak R 0,ak R 1,ak R 3,aq R 0,aq R 1,aq R 3,aq R 1 11,nm [c],s.ln,dw R,bk R⟩ o (by lia) (fun e=>nomatch e) ⟨rfl,.inr rfl⟩ ho)
   |false=>
    rw[hc,if_neg (by simp)] at ho
    have htk':(tk++[c]).length≤i+1:=by rw[List.length_append];show tk.length+1≤_;lia
    by_cases hte:tk=[]
    ·subst hte
     cases hn:(c==10) with
     |true=>
      exact dj (BZ w.params rd s.k0 s.k1 s.k3 s.t0 s.t1 s.t3 X.fa X.da X.sa X.ba X.ia X.p1 X.p2 s.st0 (nm l) i (i+1:Nat) (nm []) s.ln q s.oc (nm [c]) (nm [x]) s.Z s.V) (bI _ _) (fun Fz hF=>bK hF hrd (dJ hn (gk hx32 (aD hxq (bR (gk hc (aD h92 (nj trivial)))))))) fun R=>
       (IH false (.qt x) [c] true ⟨ak R 0,ak R 1,ak R 3,aq R 0,aq R 1,aq R 3,aq R 1 11,nm [c],s.ln+1,dw R,bk R⟩ o htk' (fun e=>nomatch e) ⟨rfl,hx⟩ ho)
     |false=>
      exact dj (CP w.params rd s.k0 s.k1 s.k3 s.t0 s.t1 s.t3 X.fa X.da X.sa X.ba X.ia X.p1 X.p2 s.st0 (nm l) i (i+1:Nat) (nm []) s.ln q s.oc (nm [c]) (nm [x]) s.Z s.V) (bI _ _) (fun Fz hF=>bK hF hrd (dJ hn (gk hx32 (aD hxq (bR (gk hc (aD h92 (nj trivial)))))))) fun R=>
       (IH false (.qt x) [c] true ⟨ak R 0,ak R 1,ak R 3,aq R 0,aq R 1,aq R 3,aq R 1 11,nm [c],s.ln,dw R,bk R⟩ o htk' (fun e=>nomatch e) ⟨rfl,hx⟩ ho)
    ·cases hn:(c==10) with
     |true=>
      exact dj (Fj w.params rd s.k0 s.k1 s.k3 s.t0 s.t1 s.t3 X.fa X.da X.sa X.ba X.ia X.p1 X.p2 s.st0 (nm l) i (i+1:Nat) (nm tk) s.ln q s.oc (nm [c]) (nm [x]) (nm (tk++[c])) s.Z s.V) (bI _ _) (fun Fz hF=>bK hF hrd (dJ hn (gk hx32 (aD hxq (bR (gk hc (aD h92 (vV hte (by lia) trivial)))))))) fun R=>
       (IH false (.qt x) (tk++[c]) true ⟨ak R 0,ak R 1,ak R 3,aq R 0,aq R 1,aq R 3,aq R 1 11,nm [c],s.ln+1,dw R,bk R⟩ o htk' (fun e=>nomatch e) ⟨rfl,hx⟩ ho)
     |false=>
      exact dj (Fx w.params rd s.k0 s.k1 s.k3 s.t0 s.t1 s.t3 X.fa X.da X.sa X.ba X.ia X.p1 X.p2 s.st0 (nm l) i (i+1:Nat) (nm tk) s.ln q s.oc (nm [c]) (nm [x]) (nm (tk++[c])) s.Z s.V) (bI _ _) (fun Fz hF=>bK hF hrd (dJ hn (gk hx32 (aD hxq (bR (gk hc (aD h92 (vV hte (by lia) trivial)))))))) fun R=>
       (IH false (.qt x) (tk++[c]) true ⟨ak R 0,ak R 1,ak R 3,aq R 0,aq R 1,aq R 3,aq R 1 11,nm [c],s.ln,dw R,bk R⟩ o htk' (fun e=>nomatch e) ⟨rfl,hx⟩ ho)
  |wd=>
   obtain⟨rfl,hw⟩:=hinv
   unfold jk at ho
   have htk':(tk++[c]).length≤i+1:=by rw[List.length_append];show tk.length+1≤_;lia
   cases hsp:oK c with
   |true=>
    rw[hsp,if_pos rfl] at ho
    cases ho
   |false=>
    have hn:(c==10)=false:=by
     cases q:(c==10) with
     |false=>rfl
     |true=>rw[eq_of_beq q] at hsp;cases hsp
    rw[hsp,if_neg (by simp)] at ho
    cases hqt:gG c with
    |true=>
     rw[hqt,if_pos rfl] at ho
     exact dj (Ga w.params rd s.k0 s.k1 s.k3 s.t0 s.t1 s.t3 X.fa X.da X.sa X.ba X.ia X.p1 X.p2 s.st0 (nm l) i (i+1:Nat) (nm tk) s.ln q s.oc (nm [c]) s.Z s.V) (bI _ _) (fun Fz hF=>bK hF hrd (dJ hn (jw rfl (bR (aD (hS hsp) (aD hE (aD (hQ hqt) trivial))))))) fun R=>
      (IH false (.qt c) tk q ⟨ak R 0,ak R 1,ak R 3,aq R 0,aq R 1,aq R 3,aq R 1 11,nm [c],s.ln,dw R,bk R⟩ o (by lia) (fun e=>nomatch e) ⟨rfl,hqt⟩ ho)
    |false=>
     rw[hqt,if_neg (by simp)] at ho
     by_cases hte:tk=[]
     ·subst hte
      have hq':q=true:=hw.elim (fun h=>absurd rfl h) id
      subst hq'
      cases hwd:decide (c∈g8.cps.toList) with
      |true=>
       exact dj (yZ w.params rd s.k0 s.k1 s.k3 s.t0 s.t1 s.t3 X.fa X.da X.sa X.ba X.ia X.p1 X.p2 s.st0 (nm l) i (i+1:Nat) (nm []) s.ln true s.oc (nm [c]) s.Z s.V) (bI _ _) (fun Fz hF=>bK hF hrd (dJ hn (jw rfl (bR (aD (hS hsp) (aD hE (aD (hQ hqt) (aD h92 (aD hwd (nj trivial)))))))))) fun R=>
        (IH false .wd [c] true ⟨ak R 0,ak R 1,ak R 3,aq R 0,aq R 1,aq R 3,aq R 1 11,nm [c],s.ln,dw R,bk R⟩ o htk' (fun e=>nomatch e) ⟨rfl,.inr rfl⟩ ho)
      |false=>
       exact dj (zp w.params rd s.k0 s.k1 s.k3 s.t0 s.t1 s.t3 X.fa X.da X.sa X.ba X.ia X.p1 X.p2 s.st0 (nm l) i (i+1:Nat) (nm []) s.ln true s.oc (nm [c]) s.Z s.V) (bI _ _) (fun Fz hF=>bK hF hrd (dJ hn (jw rfl (bR (aD (hS hsp) (aD hE (aD (hQ hqt) (aD h92 (aD hwd (aD (hQ hqt) (aD hE (nj trivial)))))))))))) fun R=>
        (IH false .wd [c] true ⟨ak R 0,ak R 1,ak R 3,aq R 0,aq R 1,aq R 3,aq R 1 11,nm [c],s.ln,dw R,bk R⟩ o htk' (fun e=>nomatch e) ⟨rfl,.inr rfl⟩ ho)
     ·have hne:tk++[c]≠[]:=by simp
      cases hwd:decide (c∈g8.cps.toList) with
      |true=>
       exact dj (Bp w.params rd s.k0 s.k1 s.k3 s.t0 s.t1 s.t3 X.fa X.da X.sa X.ba X.ia X.p1 X.p2 s.st0 (nm l) i (i+1:Nat) (nm tk) s.ln q s.oc (nm [c]) (nm (tk++[c])) s.Z s.V) (bI _ _) (fun Fz hF=>bK hF hrd (dJ hn (jw rfl (bR (aD (hS hsp) (aD hE (aD (hQ hqt) (aD h92 (aD hwd (vV hte (by lia) trivial)))))))))) fun R=>
        (IH false .wd (tk++[c]) q ⟨ak R 0,ak R 1,ak R 3,aq R 0,aq R 1,aq R 3,aq R 1 11,nm [c],s.ln,dw R,bk R⟩ o htk' (fun e=>nomatch e) ⟨rfl,.inl hne⟩ ho)
      |false=>
       exact dj (Bw w.params rd s.k0 s.k1 s.k3 s.t0 s.t1 s.t3 X.fa X.da X.sa X.ba X.ia X.p1 X.p2 s.st0 (nm l) i (i+1:Nat) (nm tk) s.ln q s.oc (nm [c]) (nm (tk++[c])) s.Z s.V) (bI _ _) (fun Fz hF=>bK hF hrd (dJ hn (jw rfl (bR (aD (hS hsp) (aD hE (aD (hQ hqt) (aD h92 (aD hwd (aD (hQ hqt) (aD hE (vV hte (by lia) trivial)))))))))))) fun R=>
        (IH false .wd (tk++[c]) q ⟨ak R 0,ak R 1,ak R 3,aq R 0,aq R 1,aq R 3,aq R 1 11,nm [c],s.ln,dw R,bk R⟩ o htk' (fun e=>nomatch e) ⟨rfl,.inl hne⟩ ho)
end
end
section
noncomputable abbrev Av:String:=SL.s6070975301684473832x10
theorem Yx:Av = "ValueError":=SL.e6070975301684473832x10.symm
noncomputable def MN (c:Code)(i:Nat):Nat:=match MT c i with
 |.str _ t=>t
 |_=>0
noncomputable def En (l:List Nat):An:=fun k=>.cons 0 (fun c _ Z V=>⟨.builtin "ValueError.__new__" ⟨[.type Av,.str (nm l) (MN c 1)],[]⟩,950,[],.ok (.ret (.ref (Z+1))),[],[(Z+1,cN Av (.ref Z) .none)],fun _ _=>False,[],Z+2,V⟩) fun _ _ _ _=>k
section
variable {w:World} {J:Array GenState} {dr:Drawn} {os:Osw} {F:bw} {k:Ant}
theorem Ik {l:List Nat}(hk:aA aH w J dr os F k):aA aH w J dr os F (En l k):=by
 refine aV (fun _ _ _ _=>rfl) (fun c g Z V=>⟨fun _ _ h=>h.elim,fun _ h=>(nomatch h),fun Fz _ A _ _ _ s r=>?_⟩) hk
 show codeAny _ A (.builtin "ValueError.__new__" ⟨[.type Av,.str (nm l) (MN c 1)],[]⟩) (fun r' s'=>r'=.ok (.ret (.ref (Z+1)))∧Rel (aj Fz (fun _ _=>False)) J dr os [(Z+1,cN Av (.ref Z) .none)] (Z+2) V s') s
 rw[bJ,Yx]
 have hs:=r.size
 have r2:=(r.push (o:={cls:=.type "tuple",data:=.seq ([.str (nm l) (MN c 1)]:List Value).toArray}) rfl).push (o:={cls:=.type "ValueError",data:=.fields #[.ref Z,.none,.none,.none,.bool false,.none]}) rfl
 obtain⟨hp,g',d,tk,os'⟩:=s
 refine Gq (owner := "ValueError") PySem.F.excCall_ValueError.ends PySem.F.excCall_ValueError.owner PySem.F.excCall_ValueError.entry (by rw[isSubtype_type];kernel_rfl) (by rw[isSubtype_type];kernel_rfl) (by rw[isSubtype_type];kernel_rfl) (by kernel_rfl) ⟨?_,?_⟩ (by show 1≤sizeLine;decide)
 ·have:hp.objs.size=Z:=hs
  rw[this]
 ·have e:hp.objs.size=Z:=hs
  rw[e]
  have r3:=Rel.cons (p:=(Z,{cls:=.type "tuple",data:=.seq ([.str (nm l) (MN c 1)]:List Value).toArray})) (led:=[(Z+1,{cls:=.type "ValueError",data:=.fields #[.ref Z,.none,.none,.none,.bool false,.none]})]) r2
  exact r3.anti fun b o h=>.inl h
end
end
section
noncomputable def Yk (P:Params)(lj:Code→Led→Nat→Nat→LxS)(buf:Str)(pos pos2:Int)(x:Nat)(tk:List Nat)(q:Bool)(c:Code)(g:Led)(Z V:Nat):Jmp:=
 ⟨jJ P (az g 4),600,[(az g 0,cD (aP (au g 0)) (aN (au g 0)) (az g 3) (uH (gV (fM (au g 0)) 12).val) (uH (gV (fM (au g 0)) 16).val) (ig .sp (CT (gV (fM (au g 0)) 11).val)) (nm []) (Ke (gV (fM (au g 0)) 13).val)),(az g 1,aC 809 (az g 0)),(az g 2,bV (aP (au g 2)) (aN (au g 2)) buf pos),(az g 3,aC 674 (az g 2)),(az g 4,yJ (aP (au g 4)) (aN (au g 4)) (az g 1) false)],
  jJ P (az g 4),[cD (lj c g Z V).k1 (lj c g Z V).t1 (az g 3) (uH (gV (fM (au g 0)) 12).val) (uH (gV (fM (au g 0)) 16).val) (ig (.qt x) (lj c g Z V).st0) (nm tk) (lj c g Z V).ln,aC 809 (az g 0),bV (lj c g Z V).k3 (lj c g Z V).t3 buf pos2,aC 674 (az g 2),fD (lj c g Z V).k0 (lj c g Z V).t0 (az g 1) q (lj c g Z V).oc],
  [],fun _ _=>False,[],(lj c g Z V).Z,(lj c g Z V).V⟩
noncomputable def Pg (P:Params)(m:Nat)(lj:Code→Led→Nat→Nat→LxS)(buf:Str)(pos pos2:Int)(x:Nat)(tk:List Nat)(q:Bool):An:=fun k=>.jump m (Yk P lj buf pos pos2 x tk q) fun _ _ _ _=>k
section
variable {w:World} {J:Array GenState} {dr:Drawn} {os:Osw} {F:bw} {k:Ant}
theorem Uw (l:List Nat)(hl:l.length≤50000)(i:Nat)(hi:i≤l.length)(hesc:∀c∈l.drop i,c≠92)(x:Nat)(tk:List Nat)(q:Bool)(hx:jk .sp (l.drop i) [] false=some (x,tk,q)):
  ∃lj:Code→Led→Nat→Nat→LxS,∀c g Z V,vO aH w J dr os (KF w.params) (Yk w.params lj (nm l) i (l.length:Nat) x tk q c g Z V) Z V:=by
 have key:=fun(c:Code) (g:Led) (Z V:Nat)=>Eh (w:=w) (J:=J) (dr:=dr) (os:=os) ⟨az g 4,az g 0,az g 1,az g 2,az g 3,uH (gV (fM (au g 0)) 12).val,uH (gV (fM (au g 0)) 16).val⟩ l hl (l.drop i) i true .sp [] false
  ⟨aP (au g 4),aP (au g 0),aP (au g 2),aN (au g 4),aN (au g 0),aN (au g 2),CT (gV (fM (au g 0)) 11).val,nm [],Ke (gV (fM (au g 0)) 13).val,Z,V⟩ (x,tk,q) rfl hi (Nat.zero_le _) hesc (fun e=>nomatch e) ⟨rfl,rfl⟩ hx
 refine⟨fun c g Z V=>(key c g Z V).choose,fun c g Z V=>⟨fun _ _ h=>h.elim,fun _ h=>(nomatch h),fun Fz hF A hA hU hh R K s r=>?_⟩⟩
 refine(key c g Z V).choose_spec Fz hF A hA hU hh R (fun s' r'=>K s' ?_) s (r.perm (Ez _ _ _ _ _))
 show Rel (aj Fz (fun _ _=>False)) J dr os _ _ _ s'
 rw[bJ]
 exact r'.perm (Ez _ _ _ _ _).symm
theorem R8 {m:Nat}{lj:Code→Led→Nat→Nat→LxS}{buf:Str}{pos pos2:Int}{x:Nat}{tk:List Nat}{q:Bool}(hF:∀b o,KF w.params b o→F b o)(h:∀c g Z V,vO aH w J dr os (KF w.params) (Yk w.params lj buf pos pos2 x tk q c g Z V) Z V)(hk:aA aH w J dr os F k):aA aH w J dr os F (Pg w.params m lj buf pos pos2 x tk q k):=fun c l Z V=>by
 refine⟨?_,?_⟩
 ·refine aK (h c l Z V) fun h1 h2 h3=>?_
  exact⟨h1,h2,fun Fz hz=>h3 Fz fun b o x=>hz b o (hF b o x)⟩
 ·show aA aH w J dr os (aj F fun _ _=>False) k
  rw[bJ]
  exact hk
end
end
noncomputable def pM:List Stmt→List Stmt
 |.Try b _ _ _ _::_=>b
 |_=>[]
noncomputable def Oa (m:Nat)(rd:Code→Led→Nat→Nat→RdO)(buf:Str)(pos pos':Int)(ch:Str):An:=fun k=>.cons m (Iw rd buf pos pos' ch) fun _ _ _ _=>k
noncomputable def iM (P:Params)(fr:Nat):Env:=envOf P 867 fr Dd []
noncomputable def Xm (P:Params)(fr:Nat):Sem Fin:=R.bindR (Fast.tw12563942051412417395 (pM (bodyOf (fdOf P 867))) (iM P fr)) fun f=>.pure (.done f)
noncomputable def Fi (k:Hk)(sa:Nat):Obj:=nZ iD k 1 [(Ft,.ref sa)]
structure TQ where
 le:Env
 fr:Nat
 k0:Hk
 t0:Tks
 line:Str
 jx:Code→Led→Nat→Nat→ExO
 vsF:List Nat→List Value
 pos:Int
 len:Int
 lj:Code→Led→Nat→Nat→LxS
 rd:Code→Led→Nat→Nat→RdO
 x:Nat
 tk:List Nat
 q:Bool
 Z:Nat
 V:Nat
noncomputable def Vh (P:Params)(z:TQ):Ant:=Ag (Ma 29452 z.jx z.vsF z.line z.pos .sp (Pg P 131852 z.lj z.line z.pos z.len z.x z.tk z.q (Oa 768 z.rd z.line z.len z.len (nm []) (bN (nm [z.x]) (nm [32]) false (bL eX (nm [z.x]) true (En fV .nil))))))
noncomputable def Yo (P:Params)(z:TQ):Res:=uv P (some [z.le]) 400 1833 (hc (hc (hc (hc (hc (hc (hc (hc (hc (hc (hc (hc (hc (hc (hc (hc (hc (hc (hc (hc (hc (hc (hc (hc (hc (hc (hc (hc (hc (hc (hc (hc (hc (hc (hc (hc (hc (hc (hc (hc (hc (hc (hc (hc (hc (hc (hc (hc (hc (hc (hc (hc (hc (hc (hc (hc (hc (hc (hc (hc (hc (hc (hc (hc (hc (hc (hc (hc (hc (hc (hc (hc 0x14141414141414140014140014140100000000000000 96 pH) 80 0x4120000001212120100) 96 pH) 16 1042) 96 pH) 32 0x4120100) 96 pH) 16 1042) 96 pH) 32 0x4120000) 96 pH) 120 0x41200001212120100090a00000000) 128 Qg) 8 10) 96 pH) 40 0x412000000) 96 pH) 528 0x41300001313000000000000000000000000000000040000000004120001121212120000121200000000030400000000040000000400000004110d000d000d000d0d) 96 pH) 400 S5) 8 0) 152 hb1) 16 514) 152 hb1) 56 0x2020200000005) 152 hb1) 40 0x505050505) 152 hb1) 8 5) 152 hb1) 112 0x50e0e0e000e000e0e0000000000) 152 hb1) 8 5) 152 hb1) 8 5) 152 hb1) 8 5) 152 hb1) 112 0x50d0d0d000d000d0d0000000000) 152 hb1) 8 5) 152 hb1) 8 5) 152 hb1) 8 5) 152 hb1) 8 5) 152 hb1) 8 5) 152 hb1) 8 5) 152 hb1) 16 0) 96 pH) 16 1029) 96 pH) 16 1029) 152 hb1) 8 5) 152 hb1) 8 5) 152 hb1) 16 1285) 152 hb1) 16 1285) 152 hb1) 16 1285) 152 hb1) 2080 hb8) 56 0) 1040 TX) 56 256) (.func (bodyOf (fdOf P 867)) (iM P z.fr)) .base 0 (Xm P z.fr) [(z.fr,oU z.k0 z.t0 z.line)] z.Z z.V [] (Vh P z)
theorem tX (P:Params)(z:TQ):∃R:Res,Yo P z=R∧
  Sy R 1802243=(true,.raise (.ref (az (fH R) 19)),[(z.fr,oU (ak R 0) (aq R 0) z.line),((az (fH R) 1),DY (ak R 1) (aq R 1) z.line (az (fH R) 3)),((az (fH R) 15),Fi (ak R 15) (az (fH R) 3)),((az (fH R) 16),Fi (ak R 16) (az (fH R) 3)),((az (fH R) 17),fD (ak R 17) (aq R 17) (az (fH R) 3) true (nm [])),((az (fH R) 19),cN Av (.ref (az (fH R) 20)) .none),((az (fH R) 20),iY [.str (nm fV) (cZ (rObj R 20) 0)])],rights (cH R))∧
  qg R=jJ P (az (fH R) 17)∧eF R=Oe (eF R) (kY (envOf P 777 (az (fH R) 17) p8 []))∧zZ R=mD (eF R):=⟨_,rfl,by kernel_rfl,by kernel_rfl,by kernel_rfl,by kernel_rfl⟩
noncomputable def zA (P:Params)(z:TQ)(i:Nat):Nat:=az (fH (Yo P z)) i
noncomputable def GF (P:Params)(le:Env)(n h:Nat)(c:Code)(κ:Kn)(e t:Nat)(a v0 v1 v2 v3:Value)(vs:List Value)(Z V:Nat):Res:=uv P (some [le]) 400 n h c κ (mD κ) (.raise (.ref e)) [(e,cN Av a (.ref t)),(t,qH ⟨v0::v1::v2::v3::vs⟩)] Z V [] .nil
noncomputable def Fl (P:Params)(le:Env)(c:Code)(κ:Kn)(f:Value→Value)(c':Code)(κ':Kn):Prop:=
 ∃n h,∀(e t:Nat) (a v0 v1 v2 v3:Value) (vs:List Value) (Z V:Nat),(fun R=>Sy R 3=(true,.raise (.ref e),[(e,cN Av a (.ref t)),(t,qH ⟨v0::v1::v2::f v3::vs⟩)],rights (cH R))∧dw R=Z∧bk R=V∧qg R=c'∧eF R=κ') (GF P le n h c κ e t a v0 v1 v2 v3 vs Z V)
noncomputable def FZ:Str:=nm [115,104,108,101,120,46,103,101,116,95,116,111,107,101,110,46,60,108,111,99,97,108,115,62,46]
noncomputable def Uv (P:Params)(z:TQ):Env:=(envOf P 777 (zA P z 17) p8 [])
noncomputable def Su (P:Params)(z:TQ):Env:=(envOf P 770 (zA P z 16) FZ [])
noncomputable def R5 (P:Params)(z:TQ):Env:=(envOf P 806 (zA P z 15) Bm [])
noncomputable def QL (P:Params)(z:TQ):Env:=(envOf P 821 (zA P z 1) Ay [])
noncomputable def Xh (P:Params)(z:TQ):Kn:=lg (eF (Yo P z))
noncomputable def Xn (P:Params)(z:TQ):Kn:=lg (eF (GF P z.le 5 33685761 (jJ P (zA P z 17)) (Xh P z) 0 0 .none .none .none .none .none [] 0 0))
theorem Sg (P:Params)(z:TQ):Fl P z.le (jJ P (zA P z 17)) (Xh P z) (fun _=>rawInt ((zA P z 17):Nat)) (.func (bodyOf (fdOf P 777)) (Uv P z)) (.lv (leaving (Uv P z)) (Xn P z)):=⟨5,33685761,fun _ _ _ _ _ _ _ _ _ _=>⟨by kernel_rfl,by kernel_rfl,by kernel_rfl,by kernel_rfl,by kernel_rfl⟩⟩
noncomputable def Xu (P:Params)(z:TQ):Kn:=lg (eF (GF P z.le 1 0 (.func (bodyOf (fdOf P 777)) (Uv P z)) (Xn P z) 0 0 .none .none .none .none .none [] 0 0))
theorem Qx (P:Params)(z:TQ):Fl P z.le (.func (bodyOf (fdOf P 777)) (Uv P z)) (Xn P z) id (.func (bodyOf (fdOf P 770)) (Su P z)) (.lv (leaving (Su P z)) (Xu P z)):=⟨1,0,fun _ _ _ _ _ _ _ _ _ _=>⟨by kernel_rfl,by kernel_rfl,by kernel_rfl,by kernel_rfl,by kernel_rfl⟩⟩
noncomputable def Xr (P:Params)(z:TQ):Kn:=lg (eF (GF P z.le 1 0 (.func (bodyOf (fdOf P 770)) (Su P z)) (Xu P z) 0 0 .none .none .none .none .none [] 0 0))
theorem Rt (P:Params)(z:TQ):Fl P z.le (.func (bodyOf (fdOf P 770)) (Su P z)) (Xu P z) id (.func (bodyOf (fdOf P 806)) (R5 P z)) (.lv (leaving (R5 P z)) (Xr P z)):=⟨1,0,fun _ _ _ _ _ _ _ _ _ _=>⟨by kernel_rfl,by kernel_rfl,by kernel_rfl,by kernel_rfl,by kernel_rfl⟩⟩
noncomputable def XK (P:Params)(z:TQ):Kn:=lg (eF (GF P z.le 4 1 (.func (bodyOf (fdOf P 806)) (R5 P z)) (Xr P z) 0 0 .none .none .none .none .none [] 0 0))
theorem Rj (P:Params)(z:TQ):Fl P z.le (.func (bodyOf (fdOf P 806)) (R5 P z)) (Xr P z) id (.func (bodyOf (fdOf P 821)) (QL P z)) (.lv (leaving (QL P z)) (XK P z)):=⟨4,1,fun _ _ _ _ _ _ _ _ _ _=>⟨by kernel_rfl,by kernel_rfl,by kernel_rfl,by kernel_rfl,by kernel_rfl⟩⟩
theorem QH (P:Params)(z:TQ):Fl P z.le (.func (bodyOf (fdOf P 821)) (QL P z)) (XK P z) id (.func (bodyOf (fdOf P 867)) (iM P z.fr)) .base:=⟨1,0,fun _ _ _ _ _ _ _ _ _ _=>⟨by kernel_rfl,by kernel_rfl,by kernel_rfl,by kernel_rfl,by kernel_rfl⟩⟩
section
open Sem (wp)
section
variable {w:World} {J:Array GenState} {dr:Drawn} {os:Osw} {F:bw} {led led':Led} {Z V:Nat}
theorem yr {fr:Option (List Env)}{lim n h:Nat}{c:Code}{κ:Kn}{dep:Nat}{t:Sem Fin}{ro:Led}{ant:Ant}{m:Nat}{e:Value}{R:Res}(hR:uv w.params fr lim n h c κ dep t led Z V ro ant=R)(hd:dep=mD κ)(H:Sy R m=(true,.raise e,led',rights (cH R)))(hkt:∀a o,(ktop w.params).get a=some o→F a o)(hro:∀p∈ro,F p.1 p.2)(hant:aA aH w J dr os F ant){A:Around}(hA:A.depth≤lim)(hU:A.units≤2*lim)(hh:A.handled=none)(hfr:∀l,fr=some l→A.frames=some l){R₀:Result→Shared→Prop}(K:∀s',Rel (aj F (rF R)) J dr os led' (dw R) (bk R) s'→d9 aH w A R₀ (qg R) (eF R) (.raise e) s'){s:Shared}(r:Rel F J dr os led Z V s):
  d9 aH w A R₀ c κ t s:=by
 unfold Sy at H
 simp only[Prod.mk.injEq] at H
 refine cg H fun h1 h3 h4 h5=>?_
 cases R with
 |bad _ _=>cases h1
 |ok σ=>
  refine uJ (oY aH w (ktop w.params) lim fr) ⟨hA,hU,hh,hfr⟩ ⟨hd,hant,hro,hkt⟩ hR (zc h5) (fun s' r'=>?_) r
  have r2:=r'.small m
  have h4':di m σ.led=led':=h4
  rw[h4'] at r2
  rw[vP h3]
  exact K s' (r2.anti fun b o q=>.inl q)
end
end
theorem Qo (P:Params)(z:TQ):Az (jG aH (ktop P) P 400 (some [z.le])) (Xh P z)=some [(Uv P z),(Su P z),(R5 P z),(QL P z),(iM P z.fr),z.le]:=by kernel_rfl
theorem Yp (P:Params)(z:TQ):Az (jG aH (ktop P) P 400 (some [z.le])) (Xn P z)=some [(Su P z),(R5 P z),(QL P z),(iM P z.fr),z.le]:=by kernel_rfl
theorem Q6 (P:Params)(z:TQ):Az (jG aH (ktop P) P 400 (some [z.le])) (Xu P z)=some [(R5 P z),(QL P z),(iM P z.fr),z.le]:=by kernel_rfl
theorem Py (P:Params)(z:TQ):Az (jG aH (ktop P) P 400 (some [z.le])) (Xr P z)=some [(QL P z),(iM P z.fr),z.le]:=by kernel_rfl
theorem Q3 (P:Params)(z:TQ):Az (jG aH (ktop P) P 400 (some [z.le])) (XK P z)=some [(iM P z.fr),z.le]:=by kernel_rfl
section
open Sem (wp)
section
variable {w:World} {J:Array GenState} {dr:Drawn} {os:Osw} {F:bw} {k:Ant}
theorem zG (l:List Nat)(hl:l.length≤50000)(hesc:∀c∈l,c≠92)(ts:List (List Nat))(r:List Nat)(ht:Toks .sp l ts .sp r)(hts:ts.length≤50000):
  ∃jx:Code→Led→Nat→Nat→ExO,(∀c g Z V,(jx c g Z V).vts.length=ts.length)∧∀c g Z V,vO aH w J dr os (KF w.params) (SJ jx (fJ ts) (nm l) ((l.length-r.length:Nat):Int) .sp c g Z V) Z V:=by
 have key:∀(c:Code) (g:Led) (Z V:Nat),∃o:ExO,o.vts.length=ts.length∧vO aH w J dr os (KF w.params) (SJ (fun _ _ _ _=>o) (fJ ts) (nm l) ((l.length-r.length:Nat):Int) .sp c g Z V) Z V:=by
  intro c g Z V
  refine aJ (nu (w:=w) (J:=J) (dr:=dr) (os:=os) (az g 6) (az g 0) (az g 1) (az g 2) (az g 3) (az g 4) (az g 5) (jM (au g 6)) (aP (au g 0)) (aP (au g 2)) (aN (au g 0)) (aN (au g 2)) (ig .sp (aN (au g 0) 11)) 1 l 0 Z V) fun sz1 tok1 K1=>?_
  refine aL (m5 (w:=w) (J:=J) (dr:=dr) (os:=os) l hl hesc (az g 6) (az g 0) (az g 1) (az g 2) (az g 3) (az g 4) (az g 5) ht 0 rfl (Nat.zero_le _) (.inl rfl) (Aj (jM (au g 6))) [] (by show 0+ts.length≤_;lia) (aP (au g 0)) (aP (au g 2)) (aN (au g 0)) (aN (au g 2)) (aN (au g 0) 11) 1 sz1 tok1) fun o ho K2=>?_
  refine⟨o,ho,fun _ _ h=>h.elim,fun _ h=>(nomatch h),fun Fz hF A hA hU hh R K s r=>?_⟩
  refine K1 Fz hF A hA hU hh R (fun s' r'=>K2 Fz hF A hA hU hh R (fun s'' r''=>K s'' ?_) s' r') s (r.perm (Gk _ _ _ _ _ _ _))
  show Rel (aj Fz (fun _ _=>False)) J dr os _ o.Z o.V s''
  rw[bJ]
  exact r''.perm (Gk _ _ _ _ _ _ _).symm
 exact⟨fun c g Z V=>(key c g Z V).choose,fun c g Z V=>(key c g Z V).choose_spec.1,fun c g Z V=>(key c g Z V).choose_spec.2⟩
theorem xQ {A:Around}{R₀:Result→Shared→Prop}{c:Code}{κ:Kn}{h:Value→Sem Unit}{e:Value}{s:Shared}(H:wpAny (model aH w) ((lG A κ).under c) (h e) (fun _ s''=>d9 aH w A R₀ c κ (.raise e) s'') (QE aH w A R₀ c κ).2 s):d9 aH w A R₀ c (.lv h κ) (.raise e) s:=fun Γ p hc hΓ=>by
 show wpOwn (model aH w) (lG A κ) c (h e) (fun _ s''=>(QE aH w A R₀ c κ).2 e s'') (QE aH w A R₀ c κ).2 s
 exact fun Γ' p' hc' hΓ'=>Sem.wp_mono _ _ _ (fun a p1 s1 h1=>h1 Γ' p1 hc' hΓ') (fun _ _ _ x=>x) p' s (H Γ' p' (hc'▸hΓ'.in))
theorem Rel.consL {led:Led}{Z V:Nat}{s:Shared}:∀{F:bw} {a:Led},Rel F J dr os (a++led) Z V s→Rel (aj F (bG a)) J dr os led Z V s
 |F,[],r=>r.anti fun b o q=>q.elim id fun q=>nomatch q
 |F,p::a,r=>(Rel.consL (F:=frame F [p]) (a:=a) (Rel.cons r)).anti fun b o q=>q.elim (fun q=>.inl (.inl q)) fun q=>(List.mem_cons.mp q).elim (fun e=>.inl (.inr (List.mem_singleton.mpr e))) .inr
theorem Rel.unconsL {led led':Led}{Z V Z' V':Nat}{s s':Shared}:∀{F:bw} {a:Led},Rel F J dr os (a++led) Z V s→Rel (aj F (bG a)) J dr os led' Z' V' s'→Rel F J dr os (a++led') Z' V' s'
 |F,[],_,r'=>r'.anti fun b o q=>.inl q
 |F,p::a,r,r'=>by
  refine Rel.uncons (led:=a++led) r ?_
  refine Rel.unconsL (F:=frame F [p]) (a:=a) (Rel.cons r) ?_
  exact r'.anti fun b o q=>q.elim (fun q=>q.elim .inl fun q=>.inr (List.mem_cons.mpr (.inl (List.mem_singleton.mp q)))) fun q=>.inr (List.mem_cons.mpr (.inr q))
end
end
section
open Sem (wp)
theorem eU {ts:Array Value}(h:ts.size=11):∃v0 v1 v2 v3 vs,ts=⟨v0::v1::v2::v3::vs⟩:=by
 obtain⟨l⟩:=ts
 obtain _|⟨v0,l⟩:=l
 ·cases h
 obtain _|⟨v1,l⟩:=l
 ·cases h
 obtain _|⟨v2,l⟩:=l
 ·cases h
 obtain _|⟨v3,l⟩:=l
 ·cases h
 exact⟨v0,v1,v2,v3,l,rfl⟩
section
variable {w:World} {J:Array GenState} {dr:Drawn} {os:Osw} {F:bw} {led led':Led} {Z V:Nat}
noncomputable def yS (es:List Env)(fr:Led):Prop:=es.map (·.frame)=fr.map (fun p=>some p.1)∧(∀p∈fr,∀vs,p.2.data≠.fields vs)∧∀x∈es,x.scope.kind≠.module
theorem yS.nil:yS [] []:=⟨rfl,fun _ h=>(nomatch h),fun _ h=>(nomatch h)⟩
theorem yS.cons {x:Env}{es:List Env}{p:Addr×Obj}{fr:Led}(h1:x.frame=some p.1)(h2:∀vs,p.2.data≠.fields vs)(h3:x.scope.kind≠.module)(h:yS es fr):yS (x::es) (p::fr):=by
 refine⟨by rw[List.map_cons,List.map_cons,h1,h.1],fun q hq=>?_,fun y hy=>?_⟩
 ·rcases List.mem_cons.mp hq with e|e
  ·exact e▸h2
  ·exact h.2.1 q e
 ·rcases List.mem_cons.mp hy with e|e
  ·exact e▸h3
  ·exact h.2.2 y e
theorem yS.tl {x:Env}{es:List Env}{p:Addr×Obj}{fr:Led}(h:yS (x::es) (p::fr)):yS es fr:=
 ⟨(List.cons.inj h.1).2,fun q hq=>h.2.1 q (.tail _ hq),fun y hy=>h.2.2 y (.tail _ hy)⟩
theorem yS.hd {x:Env}{es:List Env}{p:Addr×Obj}{fr:Led}(h:yS (x::es) (p::fr)):x.frame=some p.1:=(List.cons.inj h.1).1
theorem yS.sl {es:List Env}{fr fr':Led}(h:yS es fr)(hs:SlEq fr fr'):yS es fr':=by
 refine⟨?_,fun q hq vs=>?_,h.2.2⟩
 ·rw[h.1]
  have:=congrArg (List.map (some:Nat→Option Nat)) hs.map
  rw[List.map_map,List.map_map] at this
  exact this.symm
 ·obtain⟨p,hp,sl,e⟩:=hs.mem q hq
  subst e
  exact h.2.1 p hp vs
theorem yS.le {es:List Env}{fr:Led}{le:Env}(h:yS es fr)(hl:le.scope.kind≠.module):∀x∈es++[le],x.scope.kind≠.module:=fun x hx=>by
 rcases List.mem_append.mp hx with q|q
 ·exact h.2.2 x q
 ·rw[List.mem_singleton.mp q];exact hl
theorem SlEq.uncons {p:Addr×Obj}{l l':Led}(h:SlEq (p::l) l'):∃sl m,l'=(p.1,{p.2 with slots:=sl})::m∧SlEq l m:=by
 generalize hq:p::l=q at h
 cases h with
 |nil=>cases hq
 |cons p' sl h=>cases hq;exact⟨sl,_,rfl,h⟩
theorem SlEq.trans:∀{a b c:Led},SlEq a b→SlEq b c→SlEq a c
 |_,_,c,.nil,h=>h
 |_,_,c,.cons p sl h1,h=>by
  refine b7 h.uncons fun sl' m e h2=>?_
  subst e
  exact .cons p sl' (h1.trans h2)
theorem Rel.dropHead {p:Addr×Obj}{s:Shared}(r:Rel F J dr os (p::led) Z V s):Rel F J dr os led Z V s:=
 Rel.drop (p:=p) (r.perm (List.perm_append_comm (l₁:=[p]) (l₂:=led)))
theorem Cg (fr:Led)(a b p:Addr×Obj):(fr++a::b::[p]).Perm ((fr++[p])++[a,b]):=by
 rw[List.append_assoc]
 exact List.Perm.append_left fr (List.perm_append_comm (l₁:=[a,b]) (l₂:=[p]))
noncomputable def Wt (P:Params)(os:Osw)(A:Around)(F:bw)(le:Env)(pw:Addr×Obj):Prop:=
 ((∀b o,KF P b o→F b o)∧A.depth≤400∧A.units≤800∧A.handled=none∧A.frames=some [le])∧pw∈os.W∧le.frame=some pw.1∧(∀vs,pw.2.data≠.fields vs)∧le.scope.kind≠.module
section
variable {A:Around} {R₀:Result→Shared→Prop} {le:Env} {pw:Addr×Obj} {e t:Nat} {a:Value} {p:Addr×Obj}
theorem Ny (U:Wt w.params os A F le pw):∀l',some [le]=some l'→A.frames=some l':=fun _ e=>e▸U.1.2.2.2.2
theorem z7 {c c':Code}{κ κ':Kn}{f:Value→Value}{v0 v1 v2 v3:Value}{vs:List Value}{fr:Led}(H:Fl w.params le c κ f c' κ')(U:Wt w.params os A F le pw)(K:∀s',Rel F J dr os (fr++(e,cN Av a (.ref t))::(t,qH ⟨v0::v1::v2::f v3::vs⟩)::[p]) Z V s'→d9 aH w A R₀ c' κ' (.raise (.ref e)) s'){s:Shared}(r:Rel F J dr os (fr++(e,cN Av a (.ref t))::(t,qH ⟨v0::v1::v2::v3::vs⟩)::[p]) Z V s):d9 aH w A R₀ c κ (.raise (.ref e)) s:=by
 refine aJ H fun n h H=>?_
 refine dm (H e t a v0 v1 v2 v3 vs Z V) fun h1 hz ht hc hk=>?_
 have r0:=r.perm (Cg _ _ _ _)
 refine yr (F:=aj F (bG (fr++[p]))) (R:=GF w.params le n h c κ e t a v0 v1 v2 v3 vs Z V) rfl rfl h1 (fun a o h=>.inl (U.1.1 a o h)) (fun _ h=>(nomatch h)) trivial U.1.2.1 U.1.2.2.1 U.1.2.2.2.1 (Ny U) (fun s' r'=>?_) r0.consL
 rw[hz,ht] at r'
 rw[hc,hk]
 exact K s' ((r0.unconsL (r'.anti fun b o h=>.inl h)).perm (Cg _ _ _ _).symm)
theorem wR {c:Code}{κ κ':Kn}{ts:Array Value}{b:List Stmt}{env:Env}{es:List Env}{x:Addr×Obj}{fr fr1:Led}(H:Fl w.params le c κ id (.func b env) (.lv (leaving env) κ'))(hκ:Az (jG aH (ktop w.params) w.params 400 (some [le])) κ'=some (es++[le]))(S:yS (env::es) (x::fr))(hs:SlEq (x::fr) fr1)(U:Wt w.params os A F le pw)(h11:ts.size=11)(h3:ts[3]?=some .none)(K:∀s' fr' ts',SlEq fr fr'→ts'.size=11→ts'[3]?=some .none→Rel F J dr os (fr'++(e,cN Av a (.ref Z))::(Z,qH ts')::[p]) (Z+1) V s'→d9 aH w A R₀ (.func b env) κ' (.raise (.ref e)) s'){s:Shared}(r:Rel F J dr os (fr1++(e,cN Av a (.ref t))::(t,qH ts)::[p]) Z V s):d9 aH w A R₀ c κ (.raise (.ref e)) s:=by
 refine gr (eU h11) fun v0 v1 v2 v3 vs er5=>?_;subst er5
 refine z7 H U (fun s' r'=>?_) r
 have h1:=jX (Ny U) κ' _ hκ
 have h2:((lG A κ').under (.func b env)).frames=some (env::es++[le]):=by
  show pushEnvs (Code.func b env).envs (lG A κ').frames=_
  rw[h1]
  rfl
 have S1:=S.sl hs
 refine xQ (xV h2 S.hd S1.1 S1.2.1 U.2.1 U.2.2.1 U.2.2.2.1 (S1.le U.2.2.2.2) h11 h3 r' fun s' fr' ts' q1 q2 q3 q4=>?_)
 refine b7 ((hs.trans q1).uncons) fun sl m er6 q5=>?_;subst er6
 exact K s' m ts' q5 q2 q3 (Rel.dropHead q4)
theorem Lx {nB nC nD nE nT:Env}{cA cT:Code}{bB bC bD bE:List Stmt}{kA kB kC kD kE:Kn}{pB pC pD pE pT:Addr×Obj}(U:Wt w.params os A F le pw)(HB:Fl w.params le cA kA (fun _=>rawInt pB.1) (.func bB nB) (.lv (leaving nB) kB))(HC:Fl w.params le (.func bB nB) kB id (.func bC nC) (.lv (leaving nC) kC))(HD:Fl w.params le (.func bC nC) kC id (.func bD nD) (.lv (leaving nD) kD))(HE:Fl w.params le (.func bD nD) kD id (.func bE nE) (.lv (leaving nE) kE))(HF:Fl w.params le (.func bE nE) kE id cT .base)(gA:Az (jG aH (ktop w.params) w.params 400 (some [le])) kA=some [nB,nC,nD,nE,nT,le])(gC:Az (jG aH (ktop w.params) w.params 400 (some [le])) kC=some [nD,nE,nT,le])(gD:Az (jG aH (ktop w.params) w.params 400 (some [le])) kD=some [nE,nT,le])(gE:Az (jG aH (ktop w.params) w.params 400 (some [le])) kE=some [nT,le])(hcA:cA.envs=[])(S:yS [nB,nC,nD,nE,nT] [pB,pC,pD,pE,pT])(K:∀s' sl ts',ts'.size=11→ts'[3]?=some .none→Rel F J dr os [(pT.1,{pT.2 with slots:=sl}),(e,cN Av a (.ref (Z+3))),(Z+3,qH ts'),p] (Z+4) V s'→R₀ (.error (.ref e)) s'){s:Shared}(r:Rel F J dr os ([pB,pC,pD,pE,pT]++(e,cN Av a .none)::[p]) Z V s):d9 aH w A R₀ cA (.lv (kY nB) kA) (.raise (.ref e)) s:=by
 have hun:((lG A kA).under cA).frames=some (nB::[nC,nD,nE,nT]++[le]):=by
  show pushEnvs cA.envs (lG A kA).frames=_
  rw[jX (Ny U) _ _ gA,hcA]
  rfl
 refine xQ (Hg hun S.hd S.1 S.2.1 U.2.1 U.2.2.1 U.2.2.2.1 (S.le U.2.2.2.2) r fun s2 fr2 ts2 hsl h11 h3 r2=>?_)
 refine b7 hsl.uncons fun sl m er0 hs=>?_;subst er0
 refine gr (eU h11) fun v0 v1 v2 v3 vs er1=>?_;subst er1
 refine z7 HB U (fun s3 r3=>?_) r2
 refine xQ (Dy (led:=[p]) (ts:=⟨v0::v1::v2::rawInt pB.1::vs⟩) S.hd h11 rfl r3 fun s4 ts4 k11 k3 r4=>?_)
 refine wR HC gC S.tl hs U k11 k3 (fun s5 fr5 ts5 hs k11 k3 r5=>?_) (Rel.dropHead r4)
 refine wR HD gD S.tl.tl hs U k11 k3 (fun s6 fr6 ts6 hs k11 k3 r6=>?_) r5
 refine wR HE gE S.tl.tl.tl hs U k11 k3 (fun s7 fr7 ts7 hs k11 k3 r7=>?_) r6
 refine b7 hs.uncons fun sl m er2 he=>?_;subst er2
 have e:m=[]:=by cases he;rfl
 refine gr (eU k11) fun v0 v1 v2 v3 vs er3=>?_;subst er3
 rw[e] at r7
 exact z7 (v3:=v3) HF U (fun s8 r8 _ _ _ _=>K s8 sl _ k11 k3 r8) r7
end
theorem mU:∀(r:List Nat) (st:LS) (tk:List Nat) (q:Bool) (x:Nat) (tk':List Nat) (q':Bool),(∀y,st=.qt y→gG y=true)→jk st r tk q=some (x,tk',q')→gG x=true
 |[],st,tk,q,x,tk',q',hst,h=>by
  cases st with
  |qt y=>
   injection h with h
   injection h with h1 h2
   subst h1
   exact hst _ rfl
  |sp=>cases h
  |wd=>cases h
  |fin=>cases h
 |c::r,st,tk,q,x,tk',q',hst,h=>by
  cases st with
  |fin=>cases h
  |sp=>
   unfold jk at h
   by_cases h1:oK c=true
   ·rw[if_pos h1] at h
    exact mU r _ _ _ _ _ _ (fun y (e:LS.sp=.qt y)=>nomatch e) h
   ·rw[if_neg h1] at h
    by_cases h2:gG c=true
    ·rw[if_pos h2] at h
     exact mU r _ _ _ _ _ _ (fun y e=>by injection e with e;subst e;exact h2) h
    ·rw[if_neg h2] at h
     exact mU r _ _ _ _ _ _ (fun y (e:LS.wd=.qt y)=>nomatch e) h
  |wd=>
   unfold jk at h
   by_cases h1:oK c=true
   ·rw[if_pos h1] at h
    cases h
   ·rw[if_neg h1] at h
    by_cases h2:gG c=true
    ·rw[if_pos h2] at h
     exact mU r _ _ _ _ _ _ (fun y e=>by injection e with e;subst e;exact h2) h
    ·rw[if_neg h2] at h
     exact mU r _ _ _ _ _ _ (fun y (e:LS.wd=.qt y)=>nomatch e) h
  |qt y=>
   unfold jk at h
   by_cases h1:(c==y)=true
   ·rw[if_pos h1] at h
    exact mU r _ _ _ _ _ _ (fun y (e:LS.wd=.qt y)=>nomatch e) h
   ·rw[if_neg h1] at h
    exact mU r _ _ _ _ _ _ (fun z e=>by injection e with e;subst e;exact hst _ rfl) h
theorem Jt {x:Nat}(h:gG x=true):(x==32)=false:=by
 unfold gG at h
 simp only[List.mem_cons,List.not_mem_nil,or_false,decide_eq_true_eq] at h
 rcases h with rfl|rfl<;>rfl
theorem uR {P:Params}{a:Nat}(h:(fdOf P a).scope.kind=.function)(fr:Nat)(q:Str)(cs:List (Str×Addr)):(envOf P a fr q cs).scope.kind≠.module:=by
 show(fdOf P a).scope.kind≠.module
 rw[h];decide
theorem Va {P:Params}{a:Nat}(h:(fdOf P a).scope.kind=.function)(fr:Nat)(q:Str)(cs:List (Str×Addr)){es:List Env}{l:Led}(k:Nat)(o:Obj)(ho:∀vs,o.data≠.fields vs)(hk:k=fr)(S:yS es l):yS (envOf P a fr q cs::es) ((k,o)::l):=
 yS.cons (by rw[hk];rfl) ho (uR h _ _ _) S
theorem QB (z:TQ)(pw:Addr×Obj)(hpw:pw∈os.W)(hle:z.le.frame=some pw.1)(hpd:∀vs,pw.2.data≠.fields vs)(hlk:z.le.scope.kind≠.module)(hant:∀{Fz:bw},(∀b o,KF w.params b o→Fz b o)→aA aH w J dr os Fz (Vh w.params z)):
  ∃(k:Hk) (t:Tks) (tb e u ut Z' V':Nat),∀Fz:bw,(∀b o,KF w.params b o→Fz b o)→∀A:Around,A.depth≤400→A.units≤800→A.handled=none→A.frames=some [z.le]→∀R₀:Result→Shared→Prop,
   (∀s' sl ts',ts'.size=11→ts'[3]?=some .none→Rel Fz J dr os [(z.fr,{oU k t z.line with slots:=sl}),(e,cN Av (.ref u) (.ref tb)),(tb,qH ts'),(u,iY [.str (nm fV) ut])] Z' V' s'→R₀ (.error (.ref e)) s')→
   ∀s,Rel Fz J dr os [(z.fr,oU z.k0 z.t0 z.line)] z.Z z.V s→d9 aH w A R₀ (.func (bodyOf (fdOf w.params 867)) (iM w.params z.fr)) .base (Xm w.params z.fr) s:=by
 refine gB (tX w.params z) fun RA hRA HA hcA hkA hdA=>?_
 have hz:∀i,zA w.params z i=az (fH RA) i:=fun i=>by unfold zA;rw[hRA]
 have hkk:lg (eF RA)=Xh w.params z:=by rw[←hRA];rfl
 refine⟨ak RA 0,aq RA 0,dw RA+3,az (fH RA) 19,az (fH RA) 20,cZ (rObj RA 20) 0,dw RA+4,bk RA,fun Fz hF A hA hU hh hfA R₀ K s rl=>?_⟩
 have U:Wt w.params os A Fz z.le pw:=⟨⟨hF,hA,hU,hh,hfA⟩,hpw,hle,hpd,hlk⟩
 refine yr (F:=Fz) hRA rfl HA (fun a o h=>hF a o h) (fun _ h=>(nomatch h)) (hant hF) hA hU hh (Ny U) (fun s1 r1=>?_) rl
 rw[hcA,hkA]
 show d9 aH w A R₀ _ (.lv _ (lg (eF RA))) _ s1
 rw[hkk,←hz 17]
 have S:=Va (P:=w.params) (a:=777) (by kernel_rfl) (zA w.params z 17) p8 [] _ (fD (ak RA 17) (aq RA 17) (az (fH RA) 3) true (nm [])) (fun _ e=>nomatch e) (hz 17).symm
  (Va (P:=w.params) (a:=770) (by kernel_rfl) (zA w.params z 16) FZ [] _ (Fi (ak RA 16) (az (fH RA) 3)) (fun _ e=>nomatch e) (hz 16).symm (Va (P:=w.params) (a:=806) (by kernel_rfl) (zA w.params z 15) Bm [] _ (Fi (ak RA 15) (az (fH RA) 3)) (fun _ e=>nomatch e) (hz 15).symm
  (Va (P:=w.params) (a:=821) (by kernel_rfl) (zA w.params z 1) Ay [] _ (DY (ak RA 1) (aq RA 1) z.line (az (fH RA) 3)) (fun _ e=>nomatch e) (hz 1).symm (Va (P:=w.params) (a:=867) (by kernel_rfl) z.fr Dd [] _ (oU (ak RA 0) (aq RA 0) z.line) (fun _ e=>nomatch e) rfl yS.nil))))
 refine Lx U ?_ (Qx w.params z) (Rt w.params z) (Rj w.params z) (QH w.params z) (Qo w.params z) (Q6 w.params z) (Py w.params z) (Q3 w.params z) (by kernel_rfl) S K ((r1.anti fun b o h=>.inl h).perm (List.Perm.append_right [_,_] (List.reverse_perm [_,_,_,_,_])).symm)
 have:=Sg w.params z
 rw[hz 17] at this ⊢
 exact this
theorem gq (l:List Nat)(hl:l.length≤50000)(hesc:∀c∈l,c≠92)(ts:List (List Nat))(r:List Nat)(ht:Toks .sp l ts .sp r)(hts:ts.length≤50000)(x:Nat)(tk:List Nat)(q:Bool)(hx:jk .sp r [] false=some (x,tk,q))(le:Env)(pw:Addr×Obj)(hpw:pw∈os.W)(hle:le.frame=some pw.1)(hpd:∀vs,pw.2.data≠.fields vs)(hlk:le.scope.kind≠.module)(fr:Nat)(k0:Hk)(t0:Tks)(Z V:Nat):
  ∃(k:Hk) (t:Tks) (tb e u ut Z' V':Nat),∀Fz:bw,(∀b o,KF w.params b o→Fz b o)→∀A:Around,A.depth≤400→A.units≤800→A.handled=none→A.frames=some [le]→∀R₀:Result→Shared→Prop,
   (∀s' sl ts',ts'.size=11→ts'[3]?=some .none→Rel Fz J dr os [(fr,{oU k t (nm l) with slots:=sl}),(e,cN Av (.ref u) (.ref tb)),(tb,qH ts'),(u,iY [.str (nm fV) ut])] Z' V' s'→R₀ (.error (.ref e)) s')→
   ∀s,Rel Fz J dr os [(fr,oU k0 t0 (nm l))] Z V s→d9 aH w A R₀ (.func (bodyOf (fdOf w.params 867)) (iM w.params fr)) .base (Xm w.params fr) s:=by
 have hdr:l.drop (l.length-r.length)=r:=by
  obtain⟨p,hp⟩:=ht.suffix
  rw[←hp,List.length_append,Nat.add_sub_cancel,List.drop_left]
 have hxq:gG x=true:=mU r .sp [] false x tk q (fun y e=>nomatch e) hx
 refine aL (zG (w:=w) (J:=J) (dr:=dr) (os:=os) l hl hesc ts r ht hts) fun jx hjl hjx=>?_
 obtain⟨lj,hlj⟩:=Uw (w:=w) (J:=J) (dr:=dr) (os:=os) l hl (l.length-r.length) (Nat.sub_le _ _) (fun c hc=>hesc c (List.drop_subset _ _ hc)) x tk q (by rw[hdr];exact hx)
 obtain⟨rd,hrd⟩:=Gi (w:=w) (J:=J) (dr:=dr) (os:=os) l (by lia) l.length (Nat.le_refl _)
 obtain⟨hn1,hn2⟩:=zz (l:=l) (i:=l.length) List.drop_length
 rw[hn1,hn2] at hrd
 refine QB ⟨le,fr,k0,t0,nm l,jx,fJ ts,((l.length-r.length:Nat):Int),(l.length:Nat),lj,rd,x,tk,q,Z,V⟩ pw hpw hle hpd hlk (fun hF=>?_)
 exact Ep (Ow hF hjx (R8 hF hlj (aV (fun _ _ _ _=>rfl) (fun c g Z V=>(hrd c g Z V).mono hF) (gk (Jt hxq) (aD hxq (Ik trivial))))))
end
end
noncomputable def vR:List Stmt→List ExceptHandler
 |.Try _ h _ _ _::_=>h
 |_=>[]
noncomputable abbrev Pu:String:=SL.s10796804682411823810x3
noncomputable def Yl (P:Params)(fr e:Nat):Sem Fin:=R.bindR (handleBy (.ref e) (iM P fr) (vR (bodyOf (fdOf P 867)))) fun f=>.pure (.done f)
noncomputable def JH:Kn→Code
 |.ret c _ _ _=>c
 |_=>.call .none ⟨[],[]⟩
noncomputable def X5 (r:Result):Kn→Sem Fin
 |.ret _ _ k _=>k r
 |_=>.unsupported "Mine.kFun"
noncomputable def Zt:Kn→Bool
 |.ret ..=>true
 |_=>false
noncomputable def Zu:Kn→Option Value
 |.ret _ hd _ _=>hd
 |_=>none
noncomputable def kK:Kn→Result→Sem Fin
 |.ret _ _ k _=>k
 |_=>fun _=>.unsupported "Mine.kK"
noncomputable def Ys:Str:=nm [102,97,117,108,116]
noncomputable def vW (R:Res)(m:Nat):Led:=di m (fH R)
noncomputable def M7 (P:Params)(fr e t u ut:Nat)(k:Hk)(tk:Tks)(line:Str)(sl:Array (Option Value))(v0 v1 v2 v3:Value)(vs:List Value)(Z V:Nat):Res:=uv P none 450 29 0x1000001010303020002000000 (.func (bodyOf (fdOf P 867)) (iM P fr)) .base 0 (Yl P fr e) [(fr,{oU k tk line with slots:=sl}),(e,cN Av (.ref u) (.ref t)),(t,qH ⟨v0::v1::v2::v3::vs⟩),(u,iY [.str (nm fV) ut])] Z V [] .nil
theorem qY (P:Params)(fr e t u ut:Nat)(k:Hk)(tk:Tks)(line:Str)(sl:Array (Option Value))(v0 v1 v2 v3:Value)(vs:List Value)(Z V:Nat):∃R:Res,M7 P fr e t u ut k tk line sl v0 v1 v2 v3 vs Z V=R∧(K4 R,Cd R,oE (cH R))=(true,.again (.builtin "str.__new__" ⟨[.type Pu,.ref e],[]⟩),rights (cH R))∧eF R=.ret (JH (eF R)) none (kK (eF R)) (lg (eF R))∧
  tY (fH R) 1=some (e,cN Av (.ref u) (.ref t))∧tY (fH R) 3=some (u,iY [.str (nm fV) ut])∧(zZ R,Nat.ble (mD (eF R)) 100)=(mD (eF R),true):=⟨(M7 P fr e t u ut k tk line sl v0 v1 v2 v3 vs Z V),rfl,by kernel_rfl,by kernel_rfl,by kernel_rfl,by kernel_rfl,by kernel_rfl⟩
noncomputable def YJ (P:Params)(fr e t u ut:Nat)(k:Hk)(tk:Tks)(line:Str)(sl:Array (Option Value))(v0 v1 v2 v3:Value)(vs:List Value)(Z V:Nat):Res:=uv P none 450 16 1103823437824 (JH (eF (M7 P fr e t u ut k tk line sl v0 v1 v2 v3 vs Z V))) (lg (eF (M7 P fr e t u ut k tk line sl v0 v1 v2 v3 vs Z V))) (mD (lg (eF (M7 P fr e t u ut k tk line sl v0 v1 v2 v3 vs Z V)))) (kK (eF (M7 P fr e t u ut k tk line sl v0 v1 v2 v3 vs Z V)) (.ok (.ret (.str (nm fV) ut)))) (fH (M7 P fr e t u ut k tk line sl v0 v1 v2 v3 vs Z V)) (dw (M7 P fr e t u ut k tk line sl v0 v1 v2 v3 vs Z V)) (bk (M7 P fr e t u ut k tk line sl v0 v1 v2 v3 vs Z V)) [] .nil
theorem uV P fr e t u ut k tk line sl v0 v1 v2 v3 vs Z V:Fa (YJ P fr e t u ut k tk line sl v0 v1 v2 v3 vs Z V) 0 (.done (.ret (.str (nm fV) ut))) (fun _=>[]) Z (V+2):=⟨by kernel_rfl⟩
noncomputable def tc (P:Params)(line:Str)(lt:Nat)(Z V:Nat):Res:=bh P none 450 7 4311744512 (.call (.ref 867) ⟨[.str line lt],[]⟩) [] Z V [] .nil
theorem FP P line lt Z V:Fb (tc P line lt Z V) 1 (.again (.func (bodyOf (fdOf P 867)) (iM P Z))) (fun R=>[(Z,oU (ak R 0) (aq R 0) line)]):=⟨by kernel_rfl⟩
theorem kh (P:Params):∃b h pos,bodyOf (fdOf P 867)=[.Try b h [] [] pos]∧pM (bodyOf (fdOf P 867))=b∧vR (bodyOf (fdOf P 867))=h∧∃h0 hs,h=h0::hs:=by
 refine b8 (⟨pM (bodyOf (fdOf P 867)),vR (bodyOf (fdOf P 867)),(match bodyOf (fdOf P 867) with|.Try _ _ _ _ p::_=>p|_=>default),by kernel_rfl⟩:∃b h pos,bodyOf (fdOf P 867)=[.Try b h [] [] pos]) fun b h pos e=>?_
 have hne:(vR (bodyOf (fdOf P 867))).isEmpty=false:=by kernel_rfl
 rw[e] at hne ⊢
 refine⟨b,h,pos,rfl,rfl,rfl,?_⟩
 cases h with
 |nil=>cases hne
 |cons h0 hs=>exact⟨h0,hs,rfl⟩
section
open Sem (wp)
theorem Wl:Pu = "str":=SL.e10796804682411823810x3.symm
section
variable {w:World} {J:Array GenState} {dr:Drawn} {os:Osw} {F:bw} {led led':Led} {Z V:Nat}
theorem yQ {id:String}{args:Args}{b:Builtin}(hb:entryFor table id=some b)(hp:plainId id=true){A:Around}{R:Result→Shared→Prop}{s:Shared}(h:wpAny (model aH w) A.in1 (b args) (fun fin s'=>match fin with|.done f=>R (.ok f) s'|.again c'=>c'.quiet=true∧codeAny (model aH w) A c' R s') (fun e s'=>R (.error e) s') s):codeAny (model aH w) A (.builtin id args) R s:=by
 refine codeAny_of_tree ?_
 rw[Around.under_plainId hp args]
 show wpAny _ _ (match entryFor table id with|some b=>b args|none=>unsupported ((withoutEnding? id "#data").getD id)) _ _ s
 rw[hb]
 exact h
theorem Nq {A:Around}{s:Shared}{e u:Addr}{m:Str}{t:Tok}(hu:A.in1.units<cLine)(x:s.heap.ExcAt e "ValueError" (.ref u))(ht:s.heap.TupAt u [.str m t]){R:Result→Shared→Prop}(h:R (.ok (.ret (.str m t))) s):
  codeAny (model aH w) A (.builtin "str.__new__" ⟨[.type "str",.ref e],[]⟩) R s:=by
 refine yQ (b:=Builtin.«str.__new__») (entryFor_of_tree (by kernel_rfl)) (by kernel_rfl) ?_
 unfold Builtin.«str.__new__»
 repeat (first|with_reducible refine strOf_exc_one PySem.F.excStr_ValueError hu x ht ?_|with_reducible refine wpAny_of_eq isSubtype_str_str ?_|wp_step)
 exact h
theorem Ck {A:Around}{R₀:Result→Shared→Prop}{c c1 cc:Code}{hd:Option Value}{k:Result→Sem Fin}{κ:Kn}{s:Shared}(hq:cc.quiet=true)(h:codeAny (model aH w) (lG A (.ret c1 hd k κ)) cc (fun r s'=>d9 aH w A R₀ c1 κ (k r) s') s):d9 aH w A R₀ c (.ret c1 hd k κ) (.pure (.again cc)) s:=
 fun _ _ _ _=>⟨hq,h⟩
theorem yO {A:Around}{c:Code}{E:Value→Shared→Prop}{body orelse:Sem Flow}{h₀:ExceptHandler}{hs:List ExceptHandler}{env:Env}{Q:Flow→Shared→Prop}{s:Shared}(h:wpOwn (model aH w) A c body (fun f s₁=>match f with|.next=>wpOwn (model aH w) A c orelse Q E s₁|f=>Q f s₁)
   (fun e s₁=>wpOwn (model aH w) A c (leaving env e) (fun _ s₃=>wpOwn (model aH w) A c (handleBy e env (h₀::hs)) Q E s₃) E s₁) s):
  wpOwn (model aH w) A c (tryStmt false body (h₀::hs) orelse [] env) Q E s:=by
 intro Γ p hc hΓ
 unfold tryStmt
 simp only[List.isEmpty_nil,if_true,List.isEmpty_cons,Bool.false_and,Bool.false_eq_true,if_false]
 rw[Sem.wp_bind',Sem.wp_attempt]
 refine Sem.wp_mono _ _ _ (fun f p1 s1 h1=>?_) (fun e p1 s1 h1=>?_) p s (h Γ p hc hΓ)
 ·cases f with
  |next=>exact(show wpOwn _ _ _ _ _ _ _ from h1) Γ p1 hc hΓ
  |_=>exact h1
 ·have h2:=h1 Γ p1 hc hΓ
  unfold leaving at h2
  rw[Sem.wp_bind'] at h2
  show wp _ Γ (noteFrame e env>>=fun _=>setFlight e none>>=fun _=>handleBy e env (h₀::hs)) _ _ p1 s1
  rw[Sem.wp_bind']
  refine Sem.wp_mono _ _ _ (fun _ p2 s2 h3=>?_) (fun _ _ _ x=>x) p1 s1 h2
  rw[Sem.wp_bind']
  refine Sem.wp_mono _ _ _ (fun _ p3 s3 h4=>?_) (fun _ _ _ x=>x) p2 s2 h3
  exact h4 Γ p3 hc hΓ
noncomputable def Jv:Res→Sem Fin
 |.ok σ=>σ.tree
 |.bad _ _=>.unsupported "Mine.bad"
theorem tG {fr:Option (List Env)}{lim n h:Nat}{c:Code}{κ:Kn}{dep:Nat}{t:Sem Fin}{ro:Led}{ant:Ant}{R:Res}(hR:uv w.params fr lim n h c κ dep t led Z V ro ant=R)(hd:dep=mD κ)(hok:K4 R=true)(hob:oE (cH R)=rights (cH R))(hkt:∀a o,(ktop w.params).get a=some o→F a o)(hro:∀p∈ro,F p.1 p.2)(hant:aA aH w J dr os F ant){A:Around}(hA:A.depth≤lim)(hU:A.units≤2*lim)(hh:A.handled=none)(hfr:∀l,fr=some l→A.frames=some l){R₀:Result→Shared→Prop}(K:∀s',Rel (aj F (rF R)) J dr os (fH R) (dw R) (bk R) s'→d9 aH w A R₀ (qg R) (eF R) (Jv R) s'){s:Shared}(r:Rel F J dr os led Z V s):
  d9 aH w A R₀ c κ t s:=by
 cases R with
 |bad _ _=>cases hok
 |ok σ=>
  exact uJ (oY aH w (ktop w.params) lim fr) ⟨hA,hU,hh,hfr⟩ ⟨hd,hant,hro,hkt⟩ hR (zc hob) (fun s' r'=>K s' r') r
theorem uC {A:Around}{R₀:Result→Shared→Prop}{c:Code}{t:Sem Flow}{s:Shared}(h:d9 aH w A R₀ c .base (t>>=fun f=>(.pure (.done f):Sem Fin)) s):wpOwn (model aH w) A c t (fun f s'=>R₀ (.ok f) s') (fun e s'=>R₀ (.error e) s') s:=fun Γ p hc hΓ=>by
 have x:wp (model aH w) Γ (t>>=fun f=>(.pure (.done f):Sem Fin)) _ _ p s:=h Γ p hc hΓ
 rw[Sem.wp_bind'] at x
 exact x
theorem HN {A:Around}{c:Code}{t:Sem Flow}{Q:Flow→Shared→Prop}{E:Value→Shared→Prop}{s:Shared}(h:d9 aH w A (fun r s'=>match r with|.ok f=>Q f s'|.error e=>E e s') c .base (t>>=fun f=>(.pure (.done f):Sem Fin)) s):wpOwn (model aH w) A c t Q E s:=uC h
theorem Bk (fr e tb u ut:Nat)(k:Hk)(t:Tks)(line:Str)(sl:Array (Option Value))(ts:Array Value)(h11:ts.size=11)(Z V:Nat){Fz:bw}(hF:∀b o,KF w.params b o→Fz b o){A:Around}(hA:A.depth≤400)(hU:A.units≤800)(hh:A.handled=none){R₀:Result→Shared→Prop}(K:∀s',Rel Fz J dr os [] Z (V+2) s'→R₀ (.ok (.ret (.str (nm fV) ut))) s'){s:Shared}(r:Rel Fz J dr os [(fr,{oU k t line with slots:=sl}),(e,cN Av (.ref u) (.ref tb)),(tb,qH ts),(u,iY [.str (nm fV) ut])] Z V s):
  d9 aH w A R₀ (.func (bodyOf (fdOf w.params 867)) (iM w.params fr)) .base (Yl w.params fr e) s:=by
 refine gr (eU h11) fun v0 v1 v2 v3 vs er4=>?_;subst er4
 refine jf (qY w.params fr e tb u ut k t line sl v0 v1 v2 v3 vs Z V) fun R1 hR1 H1 hk1 g1 g3 hd1=>?_
 refine dh ((uV w.params fr e tb u ut k t line sl v0 v1 v2 v3 vs Z V).ex) fun R2 hR2 H2 hz2 ht2=>?_
 unfold YJ at hR2
 rw[hR1] at hR2
 simp only[Prod.mk.injEq] at H1 hd1
 refine aK H1 fun o1 o2 o3=>?_
 have hkt:∀a o,(ktop w.params).get a=some o→Fz a o:=fun a o h=>hF a o h
 refine tG hR1 rfl o1 o3 hkt (fun _ h=>(nomatch h)) trivial (by lia) (by lia) hh (fun _ q=>nomatch q) (fun s1 r1=>?_) r
 have htr:Jv R1=.pure (.again (.builtin "str.__new__" ⟨[.type Pu,.ref e],[]⟩)):=by
  cases R1 with
  |bad _ _=>cases o1
  |ok σ=>exact nG o2
 have hun:=lV (A₀:=A) (D:=400) hU (eF R1)
 have hkb:mD (eF R1)≤100:=Nat.le_of_ble_eq_true hd1.2
 rw[htr,Wl]
 rw[hk1] at hun ⊢
 refine Ck (Code.quiet_builtin _ (FN (by kernel_rfl))) (Nq (u:=u) (m:=nm fV) (t:=ut) ?_ ?_ ?_ ?_)
 ·show(lG A (.ret (JH (eF R1)) none (kK (eF R1)) (lg (eF R1)))).units+1<cLine
  rw[hk1] at hkb
  exact Nat.lt_of_le_of_lt (show _≤1100 by lia) (by decide)
 ·have hm:=r1.own _ (lz g1)
  exact⟨_,_,hm,congrArg Value.type Yx,rfl,rfl⟩
 ·have hm:=r1.own _ (lz g3)
  exact⟨_,_,hm,congrArg Value.type SL.e2766695959194262286x5.symm,rfl⟩
 ·have hm:=rO (F:=aj Fz (rF R1)) (A:=A) (R₀:=R₀) hR2 rfl H2 (fun a o h=>.inl (hkt a o h)) (fun _ h=>(nomatch h)) trivial (by lia) (by lia) hh (fun _ q=>nomatch q) (fun s3 r3=>K s3 ?_) r1
  ·exact hm
  ·rw[hz2,ht2] at r3
   exact r3.anti fun b o h=>.inl (.inl (.inl h))
theorem oZ (l:List Nat)(hl:l.length≤50000)(hesc:∀c∈l,c≠92)(ts:List (List Nat))(r:List Nat)(ht:Toks .sp l ts .sp r)(hts:ts.length≤50000)(x:Nat)(tk:List Nat)(q:Bool)(hx:jk .sp r [] false=some (x,tk,q))(le:Env)(pw:Addr×Obj)(hpw:pw∈os.W)(hle:le.frame=some pw.1)(hpd:∀vs,pw.2.data≠.fields vs)(hlk:le.scope.kind≠.module)(fr:Nat)(k0:Hk)(t0:Tks)(Z V:Nat):
  ∃(ut Z' V':Nat),∀Fz:bw,(∀b o,KF w.params b o→Fz b o)→∀A:Around,A.depth≤400→A.units≤800→A.handled=none→A.frames=some [le]→∀Ro:Result→Shared→Prop,
   (∀s',Rel Fz J dr os [] Z' V' s'→Ro (.ok (.ret (.str (nm fV) ut))) s')→∀s,Rel Fz J dr os [(fr,oU k0 t0 (nm l))] Z V s→codeAny (model aH w) A (.func (bodyOf (fdOf w.params 867)) (iM w.params fr)) Ro s:=by
 refine w7 (gq (w:=w) (J:=J) (dr:=dr) (os:=os) l hl hesc ts r ht hts x tk q hx le pw hpw hle hpd hlk fr k0 t0 Z V) fun k t tb e u ut sz1 tok1 K1=>?_
 refine⟨ut,sz1+1,tok1+2,fun Fz hF A hA hU hh hfA Ro K s rl=>?_⟩
 obtain⟨b,h,pos,hb,hb1,hb2,h0,hs,rfl⟩:=kh w.params
 have hkT:(iM w.params fr).scope.kind≠.module:=uR (P:=w.params) (a:=867) (by kernel_rfl) fr Dd []
 refine y_code _ _ _ _ _ _ (Ac ?_)
 have key:wpOwn (model aH w) A (.func (bodyOf (fdOf w.params 867)) (iM w.params fr)) (tryStmt false (execs b (iM w.params fr)) (h0::hs) (execs [] (iM w.params fr)) [] (iM w.params fr)) (fun f s'=>match f with|.ret v=>Ro (.ok (.ret v)) s'|_=>False) (fun _ _=>False) s:=by
  refine yO ?_
  have hm:=K1 Fz hF A hA hU hh hfA (fun r' s'=>match r' with
   |.ok _=>False
   |.error e=>wpOwn (model aH w) A (.func (bodyOf (fdOf w.params 867)) (iM w.params fr)) (leaving (iM w.params fr) e) (fun _ s₃=>wpOwn (model aH w) A (.func (bodyOf (fdOf w.params 867)) (iM w.params fr)) (handleBy e (iM w.params fr) (h0::hs)) (fun f s'=>match f with|.ret v=>Ro (.ok (.ret v)) s'|_=>False) (fun _ _=>False) s₃) (fun _ _=>False) s') (fun s1 sl ts1 h11 h3 r1=>?_) s rl
  ·unfold Xm at hm
   rw[←R.bindR_eq,←Fast.te12563942051412417395,hb1] at hm
   exact wpOwn_mono (uC hm) (fun f s' z=>z.elim) fun e s' z=>z
  ·refine pW (xV (es:=[]) (fr:=[(fr,{oU k t (nm l) with slots:=sl})]) (led:=[(u,iY [.str (nm fV) ut])]) ?_ rfl rfl ?_ hpw hle hpd ?_ h11 h3 r1 fun s2 fr2 ts2 hsl k11 k3 r2=>?_)
   ·show pushEnvs (Code.func (bodyOf (fdOf w.params 867)) (iM w.params fr)).envs A.frames=_
    rw[hfA]
    rfl
   ·intro p hp vs
    rw[List.mem_singleton.mp hp]
    exact fun e=>nomatch e
   ·intro y hy
    simp only[List.cons_append,List.nil_append,List.mem_cons,List.not_mem_nil,or_false] at hy
    rcases hy with rfl|rfl
    ·exact hkT
    ·exact hlk
   ·cases hsl with|cons _ s2l hsl=>
    cases hsl
    refine HN ?_
    have hh2:=Bk (w:=w) (J:=J) (dr:=dr) (os:=os) fr e sz1 u ut k t (nm l) s2l ts2 k11 (sz1+1) tok1 hF hA hU hh (R₀:=fun r s'=>match r with|.ok f=>(match f with|.ret v=>Ro (.ok (.ret v)) s'|_=>False)|.error e=>False) (fun s' r'=>K s' r') r2
    unfold Yl at hh2
    rw[←R.bindR_eq,hb2] at hh2
    exact hh2
 have hfb:mL (bodyOf (fdOf w.params 867)) (iM w.params fr)=mL [.Try b (h0::hs) [] [] pos] (iM w.params fr):=by rw[hb]
 rw[hfb]
 unfold mL
 refine wpOwn_bind (m:=point) fun _ _ _ _=>(?_:wpOwn _ _ _ _ _ _ _)
 rw[arm_execs_cons]
 refine wpOwn_bind (wpOwn_bind ?_)
 rw[arm_exec_Try]
 refine wpOwn_bind (m:=standAt pos) fun _ _ _ _=>(?_:wpOwn _ _ _ _ _ _ _)
 refine wpOwn_mono key (fun f s' hf=>?_) fun _ _ z=>z.elim
 cases f with
 |ret v=>
  intro Γ p hc hΓ
  show wpOwn (model aH w) A _ (ret v) (postC aH w A Ro) _ s'
  intro Γ2 p2 hc2 hΓ2
  exact hf
 |_=>exact hf.elim
theorem qJ (l:List Nat)(hl:l.length≤50000)(hesc:∀c∈l,c≠92)(ts:List (List Nat))(r:List Nat)(ht:Toks .sp l ts .sp r)(hts:ts.length≤50000)(x:Nat)(tk:List Nat)(q:Bool)(hx:jk .sp r [] false=some (x,tk,q))(le:Env)(pw:Addr×Obj)(hpw:pw∈os.W)(hle:le.frame=some pw.1)(hpd:∀vs,pw.2.data≠.fields vs)(hlk:le.scope.kind≠.module)(lt Z V:Nat):
  ∃(ut Z' V':Nat),∀Fz:bw,(∀b o,KF w.params b o→Fz b o)→
   Oc aH w J dr os [le] 400 (.call (.ref 867) ⟨[.str (nm l) lt],[]⟩) Fz [] Z V (.ok (.ret (.str (nm fV) ut))) Fz [] Z' V':=by
 refine aL ((FP w.params (nm l) lt Z V).ex) fun R hR H=>?_
 refine b8 (oZ (w:=w) (J:=J) (dr:=dr) (os:=os) l hl hesc ts r ht hts x tk q hx le pw hpw hle hpd hlk Z (ak R 0) (aq R 0) (dw R) (bk R)) fun ut Z' V' K=>?_
 refine⟨ut,Z',V',fun Fz hF A hA hU hh hfA s rl=>?_⟩
 refine dm (bT H) fun h1 h2 h3 h4 h5=>?_
 cases R with
 |bad _ _=>cases h1
 |ok σ=>
  have hR':bh w.params none 450 _ _ (.call (.ref 867) ⟨[.str (nm l) lt],[]⟩) [] Z V [] .nil=.ok σ:=hR
  refine lU (F:=Fz) (ro:=[]) (ant:=.nil) hF (fun _ h=>(nomatch h)) trivial hR' h5 (by lia) (by lia) hh (fun _ q=>nomatch q) (fun s' r'=>?_) rl
  rw[nG h3,rJ h2]
  have r2:=r'.small 1
  have h4':di 1 σ.led=_:=h4
  rw[h4'] at r2
  exact fun _ _ _ _=>⟨rfl,K Fz hF A hA hU hh hfA _ (fun s3 r3=>⟨rfl,r3⟩) s' (r2.anti fun b o h=>.inl (.inl h))⟩
end
end
section
open Builtin Builtin.Str Builtin.Int
noncomputable def Aw (x:Str)(i:Int)(ch:Nat):An:=fun kk=>.cons 0 (fun c _ Z V=>iH (.builtin "str.__getitem__" ⟨[.str x (bH c 0),.int i (bH c 1)],[]⟩) [] (.str (nm [ch]) V) Z (V+1)) fun _ _ _ _=>kk
section
variable {w:World} {J:Array GenState} {dr:Drawn} {os:Osw} {F:bw} {kk:Ant}
theorem Mp {x:Str}{i:Int}{ch:Nat}(hr:(decide (i < -(2 ^ 63:Int))||decide (i≥2 ^ 63))=false)(h:(seqIndex? i x.length).bind (x.cps[·]?)=some ch)(hk:aA aH w J dr os F kk):aA aH w J dr os F (Aw x i ch kk):=
 aV (fun _ _ _ _=>rfl) (fun c _ _ _=>Gr PySem.F.entry_str_getitem (by decide +kernel) (gives_str_getitem x i (bH c 0) (bH c 1) ch hr h) (by show 1≤sizeLine;decide)) hk
end
noncomputable def vh:Sem Fin→Option Code
 |.call c hd _ _ _=>match hd with
  |none=>some c
  |some _=>none
 |_=>none
noncomputable def Ox:Sem Fin→Result→Sem Fin
 |.call _ _ _ _ k=>k
 |_=>fun _=>.unsupported "Mine.tkK"
noncomputable def rn (W:Nat)(f0:List Nat)(ft ra:Nat)(ps:List (List Nat×Nat))(X:bw)(Z V:Nat):Ans:=⟨.call (.ref 860) ⟨[.ref W,.str (nm f0) ft],[]⟩,700,[],.ok (.ret (.ref ra)),[],[],X,[(ra,aa 0 (tvs ps))],Z,V⟩
noncomputable def Vd:Str:=nm [108,105,110,101]
noncomputable def Qs:Str:=nm [112,97,116,104,115]
noncomputable def X4:Str:=nm [100,117,101]
noncomputable def d8 (k:Hk)(S W ya:Nat)(f line:List Nat)(ft lt:Nat)(pv dv:Value):Obj:=nZ iD k 7 [(zX,.ref S),(tE,.ref W),(Ea,.str (nm f) ft),(Vd,.str (nm line) lt),(Qs,.ref ya),(Ds,pv),(X4,dv)]
noncomputable def gK (P:Params)(fr:Nat):Env:=envOf P 872 fr LQ [(Ej,fr+1)]
noncomputable def wH (t:Nat):List Value:=[.str (nm []) t,.str (nm [47]) (t+1),.str (nm [47,47]) (t+2),.str (nm [47,47,47]) (t+3),.str (nm [46,46,47]) (t+4)]
end
noncomputable def PL (P:Params)(S epS W epW n3 szw tokw xa szx tokx ya szy toky ra szp tokp mk:Nat)(vsS was:List Value)(Xw X1 X2 Xp:bw)(nS d2 d5:Int)(f:List Nat)(pl:List Nat)(pt:Nat)(da:Nat)(p1 p2 p3:List (List Nat×Nat))(o3:CompOut)(x3:Value)(Z V:Nat):Res:=bh P none 310 245 Tv (.call (.ref 872) ⟨[.ref S],[]⟩) [] Z V [(S,aa epS vsS)] (bc 0 (z6 S W epW was Xw szw tokw) (Z+2) (V+1) (cB 0 [] S nS (fc nS 2 d2 (Aw (nm [39,34]) d2 mk (cB 0 [] S nS (fc nS 5 d5 (aX 4 [(szw,aa 0 (wH (tokw+7)))] szw d5 (.str (nm f) (tokw+7+d5.toNat)) (bc 0 (rn W [] (tokw+18) xa p1 X1 szx tokx) (szw+1) (tokw+19) (bc 58 (bF (Z+1,bU (.str (nm [mk]) (tokw+6))) (cC 900 (dK (JM P) (K6 P Z (Z+1) (szx+2)) szx (szx+1)) qm (szx+2) szx xa (szx+1) n3 (some x3) o3)) (szx+3) tokx (dF 16 [(szx+1,aa o3.ep o3.vs)] [32] (szx+1) p3 (dB f (ao [32] (aF p3)) (bc 0 (rn W f (tokw+7+d5.toNat) ya p2 X2 szy toky) o3.Z ((eN f (ao [32] (aF p3)) (jK p3 o3.V))+1) (bc 0 (z8 W f (tokw+7+d5.toNat) mk (tokw+6) ra (.str (nm pl) pt) (.ref da) Xp szp tokp) szy (toky+1) (.nil))))))))))))))
theorem j7 (P:Params)(S epS W epW n3 szw tokw xa szx tokx ya szy toky ra szp tokp mk:Nat)(vsS was:List Value)(Xw X1 X2 Xp:bw)(nS d2 d5:Int)(f:List Nat)(pl:List Nat)(pt:Nat)(da:Nat)(p1 p2 p3:List (List Nat×Nat))(o3:CompOut)(x3:Value)(Z V:Nat):∃R:Res,PL P S epS W epW n3 szw tokw xa szx tokx ya szy toky ra szp tokp mk vsS was Xw X1 X2 Xp nS d2 d5 f pl pt da p1 p2 p3 o3 x3 Z V=R∧(K4 R,vh (Jv R),di 3 (fH R),oE (cH R))=(true,some (.call (.ref 867) ⟨[.str (nm (f++(ao [32] (aF p3)))) ((aY f (ao [32] (aF p3)) (tokw+7+d5.toNat) (jT p3 o3.V) (jK p3 o3.V)))],[]⟩),[(Z,(d8 (ak R 0) S W ya f (f++(ao [32] (aF p3))) (tokw+7+d5.toNat) (aY f (ao [32] (aF p3)) (tokw+7+d5.toNat) (jT p3 o3.V) (jK p3 o3.V)) (.str (nm pl) pt) (.ref da))),(Z+1,bU (.str (nm [mk]) (tokw+6)))],rights (cH R))∧qg R=.func (bodyOf (fdOf P 872)) (gK P Z)∧eF R=.lv (leaving (gK P Z)) .base∧zZ R=0∧dw R=szp+3∧bk R=tokp+2∧rF R=(aj (aj (aj (aj (aj (aj (aj (aj (aj (aj (aj (aj (aj (fun _ _=>False) (Xw)) (cQ)) (cQ)) (cQ)) (cQ)) (cQ)) (cQ)) (X1)) (o3.X)) (cQ)) (cQ)) (X2)) (Xp)):=⟨(PL P S epS W epW n3 szw tokw xa szx tokx ya szy toky ra szp tokp mk vsS was Xw X1 X2 Xp nS d2 d5 f pl pt da p1 p2 p3 o3 x3 Z V),rfl,by kernel_rfl,by kernel_rfl,by kernel_rfl,by kernel_rfl,by kernel_rfl,by kernel_rfl,by kernel_rfl⟩
noncomputable def J3 (P:Params)(S epS W epW n3 szw tokw xa szx tokx ya szy toky ra szp tokp mk:Nat)(vsS was:List Value)(Xw X1 X2 Xp:bw)(nS d2 d5:Int)(f:List Nat)(pl:List Nat)(pt:Nat)(da:Nat)(p1 p2 p3:List (List Nat×Nat))(o3:CompOut)(x3:Value)(Z V:Nat):Result→Sem Fin:=Ox (Jv (PL P S epS W epW n3 szw tokw xa szx tokx ya szy toky ra szp tokp mk vsS was Xw X1 X2 Xp nS d2 d5 f pl pt da p1 p2 p3 o3 x3 Z V))
noncomputable def I7 (P:Params)(S epS W epW n3 szw tokw xa szx tokx ya szy toky ra szp tokp mk:Nat)(vsS was:List Value)(Xw X1 X2 Xp:bw)(nS d2 d5:Int)(f:List Nat)(pl:List Nat)(pt:Nat)(da:Nat)(p1 p2 p3:List (List Nat×Nat))(o3:CompOut)(x3:Value)(k:Hk)(sl:Array (Option Value))(ta ept lt n9 n10:Nat)(line:List Nat)(pt1:List (List Nat×Nat))(o9 o10:CompOut)(x9 x10:Value)(u1 szn tokn sz1 tok1:Nat)(Z V:Nat):Res:=uv P none 310 83 V0 (.func (bodyOf (fdOf P 872)) (gK P Z)) (.lv (leaving (gK P Z)) .base) 0 (J3 P S epS W epW n3 szw tokw xa szx tokx ya szy toky ra szp tokp mk vsS was Xw X1 X2 Xp nS d2 d5 f pl pt da p1 p2 p3 o3 x3 Z V (.ok (.ret (.ref ta)))) [(Z,{d8 k S W ya f line (tokw+7+d5.toNat) lt (.str (nm pl) pt) (.ref da) with slots:=sl}),(Z+1,bU (.str (nm [mk]) (tokw+6))),(ta,aa ept (tvs pt1))] sz1 tok1 [(ya,aa 0 (tvs p2))] (qR 4 (fun _=>[(ta,aa ept (tvs pt1))]) ta ya false (bc 56 (cC 500 (dK (K3 P) (NT P Z (sz1+2)) sz1 (sz1+1)) iT (sz1+2) sz1 ya (sz1+1) n9 (some x9) o9) (sz1+3) tok1 (bc 448 (cC 500 (dK (yL P) (Ar P Z (o9.Z+2)) o9.Z (o9.Z+1)) iT (o9.Z+2) o9.Z ya (o9.Z+1) n10 (some x10) o10) (o9.Z+3) o9.V (qR 144 (fun _=>[(sz1+1,aa o9.ep o9.vs),(o9.Z+1,aa o10.ep o10.vs)]) (sz1+1) (o9.Z+1) false (bc 0 (qP 126 line lt pl u1 szn tokn) o10.Z o10.V (bN (nm pl) (nm pl) true (.nil)))))))
theorem km (P:Params)(S epS W epW n3 szw tokw xa szx tokx ya szy toky ra szp tokp mk:Nat)(vsS was:List Value)(Xw X1 X2 Xp:bw)(nS d2 d5:Int)(f:List Nat)(pl:List Nat)(pt:Nat)(da:Nat)(p1 p2 p3:List (List Nat×Nat))(o3:CompOut)(x3:Value)(k:Hk)(sl:Array (Option Value))(ta ept lt n9 n10:Nat)(line:List Nat)(pt1:List (List Nat×Nat))(o9 o10:CompOut)(x9 x10:Value)(u1 szn tokn sz1 tok1:Nat)(Z V:Nat):∃R:Res,I7 P S epS W epW n3 szw tokw xa szx tokx ya szy toky ra szp tokp mk vsS was Xw X1 X2 Xp nS d2 d5 f pl pt da p1 p2 p3 o3 x3 k sl ta ept lt n9 n10 line pt1 o9 o10 x9 x10 u1 szn tokn sz1 tok1 Z V=R∧(K4 R,vh (Jv R),di 1 (fH R),oE (cH R))=(true,some (.call (.ref 867) ⟨[.str (nm (pl)) (pt)],[]⟩),[(Z,{d8 (ak R 0) S W ya f line (tokw+7+d5.toNat) lt (.str (nm pl) pt) (.ref da) with slots:=sl})],rights (cH R))∧qg R=.func (bodyOf (fdOf P 872)) (gK P Z)∧eF R=.lv (leaving (gK P Z)) .base∧zZ R=0∧dw R=szn∧bk R=tokn∧rF R=(aj (aj (aj (aj (aj (aj (fun _ _=>False) (cQ)) (o9.X)) (o10.X)) (cQ)) (cQ)) (cQ)):=⟨(I7 P S epS W epW n3 szw tokw xa szx tokx ya szy toky ra szp tokp mk vsS was Xw X1 X2 Xp nS d2 d5 f pl pt da p1 p2 p3 o3 x3 k sl ta ept lt n9 n10 line pt1 o9 o10 x9 x10 u1 szn tokn sz1 tok1 Z V),rfl,by kernel_rfl,by kernel_rfl,by kernel_rfl,by kernel_rfl,by kernel_rfl,by kernel_rfl,by kernel_rfl⟩
noncomputable def Om (P:Params)(S epS W epW n3 szw tokw xa szx tokx ya szy toky ra szp tokp mk:Nat)(vsS was:List Value)(Xw X1 X2 Xp:bw)(nS d2 d5:Int)(f:List Nat)(pl:List Nat)(pt:Nat)(da:Nat)(p1 p2 p3:List (List Nat×Nat))(o3:CompOut)(x3:Value)(k:Hk)(sl:Array (Option Value))(ta ept lt n9 n10:Nat)(line:List Nat)(pt1:List (List Nat×Nat))(o9 o10:CompOut)(x9 x10:Value)(u1 szn tokn sz1 tok1:Nat)(Z V:Nat):Result→Sem Fin:=Ox (Jv (I7 P S epS W epW n3 szw tokw xa szx tokx ya szy toky ra szp tokp mk vsS was Xw X1 X2 Xp nS d2 d5 f pl pt da p1 p2 p3 o3 x3 k sl ta ept lt n9 n10 line pt1 o9 o10 x9 x10 u1 szn tokn sz1 tok1 Z V))
noncomputable def Th (P:Params)(S epS W epW n3 szw tokw xa szx tokx ya szy toky ra szp tokp mk:Nat)(vsS was:List Value)(Xw X1 X2 Xp:bw)(nS d2 d5:Int)(f:List Nat)(pl:List Nat)(pt:Nat)(da:Nat)(p1 p2 p3:List (List Nat×Nat))(o3:CompOut)(x3:Value)(k:Hk)(sl:Array (Option Value))(ta ept lt n9 n10:Nat)(line:List Nat)(pt1:List (List Nat×Nat))(o9 o10:CompOut)(x9 x10:Value)(u1 szn tokn sz1 tok1:Nat)(k2:Hk)(sl2:Array (Option Value))(sz2 tok2:Nat)(tb epb epd:Nat)(pb pd:List (List Nat×Nat))(Z V:Nat):Res:=uv P none 310 11 1108114670081 (.func (bodyOf (fdOf P 872)) (gK P Z)) (.lv (leaving (gK P Z)) .base) 0 (Om P S epS W epW n3 szw tokw xa szx tokx ya szy toky ra szp tokp mk vsS was Xw X1 X2 Xp nS d2 d5 f pl pt da p1 p2 p3 o3 x3 k sl ta ept lt n9 n10 line pt1 o9 o10 x9 x10 u1 szn tokn sz1 tok1 Z V (.ok (.ret (.ref tb)))) [(Z,{d8 k2 S W ya f line (tokw+7+d5.toNat) lt (.str (nm pl) pt) (.ref da) with slots:=sl2}),(tb,aa epb (tvs pb))] sz2 tok2 [(da,aa epd (tvs pd))] (pg 2 (fun _=>[(tb,aa epb (tvs pb))]) tb da true .nil)
theorem wK P S epS W epW n3 szw tokw xa szx tokx ya szy toky ra szp tokp mk vsS was Xw X1 X2 Xp nS d2 d5 f pl pt da p1 p2 p3 o3 x3 k sl ta ept lt n9 n10 line pt1 o9 o10 x9 x10 u1 szn tokn sz1 tok1 k2 sl2 sz2 tok2 tb epb epd pb pd Z V:Fb (Th P S epS W epW n3 szw tokw xa szx tokx ya szy toky ra szp tokp mk vsS was Xw X1 X2 Xp nS d2 d5 f pl pt da p1 p2 p3 o3 x3 k sl ta ept lt n9 n10 line pt1 o9 o10 x9 x10 u1 szn tokn sz1 tok1 k2 sl2 sz2 tok2 tb epb epd pb pd Z V) 0 (.done (.ret (.bool true))) (fun _=>[]):=⟨by kernel_rfl⟩
noncomputable def RB (P:Params)(S epS W epW n3 szw tokw xa szx tokx ya szy toky ra szp tokp mk:Nat)(vsS was:List Value)(Xw X1 X2 Xp:bw)(nS d2 d5:Int)(f:List Nat)(pl:List Nat)(pt:Nat)(ud:Nat)(p1 p2 p3:List (List Nat×Nat))(o3:CompOut)(x3:Value)(Z V:Nat):Res:=bh P none 310 245 Tv (.call (.ref 872) ⟨[.ref S],[]⟩) [] Z V [(S,aa epS vsS)] (bc 0 (z6 S W epW was Xw szw tokw) (Z+2) (V+1) (cB 0 [] S nS (fc nS 2 d2 (Aw (nm [39,34]) d2 mk (cB 0 [] S nS (fc nS 5 d5 (aX 4 [(szw,aa 0 (wH (tokw+7)))] szw d5 (.str (nm f) (tokw+7+d5.toNat)) (bc 0 (rn W [] (tokw+18) xa p1 X1 szx tokx) (szw+1) (tokw+19) (bc 58 (bF (Z+1,bU (.str (nm [mk]) (tokw+6))) (cC 900 (dK (JM P) (K6 P Z (Z+1) (szx+2)) szx (szx+1)) qm (szx+2) szx xa (szx+1) n3 (some x3) o3)) (szx+3) tokx (dF 16 [(szx+1,aa o3.ep o3.vs)] [32] (szx+1) p3 (dB f (ao [32] (aF p3)) (bc 0 (rn W f (tokw+7+d5.toNat) ya p2 X2 szy toky) o3.Z ((eN f (ao [32] (aF p3)) (jK p3 o3.V))+1) (bc 0 (z8 W f (tokw+7+d5.toNat) mk (tokw+6) ra (.str (nm pl) pt) (.str (nm fV) ud) Xp szp tokp) szy (toky+1) (.nil))))))))))))))
theorem kJ (P:Params)(S epS W epW n3 szw tokw xa szx tokx ya szy toky ra szp tokp mk:Nat)(vsS was:List Value)(Xw X1 X2 Xp:bw)(nS d2 d5:Int)(f:List Nat)(pl:List Nat)(pt:Nat)(ud:Nat)(p1 p2 p3:List (List Nat×Nat))(o3:CompOut)(x3:Value)(Z V:Nat):∃R:Res,RB P S epS W epW n3 szw tokw xa szx tokx ya szy toky ra szp tokp mk vsS was Xw X1 X2 Xp nS d2 d5 f pl pt ud p1 p2 p3 o3 x3 Z V=R∧(K4 R,vh (Jv R),di 3 (fH R),oE (cH R))=(true,some (.call (.ref 867) ⟨[.str (nm (f++(ao [32] (aF p3)))) ((aY f (ao [32] (aF p3)) (tokw+7+d5.toNat) (jT p3 o3.V) (jK p3 o3.V)))],[]⟩),[(Z,(d8 (ak R 0) S W ya f (f++(ao [32] (aF p3))) (tokw+7+d5.toNat) (aY f (ao [32] (aF p3)) (tokw+7+d5.toNat) (jT p3 o3.V) (jK p3 o3.V)) (.str (nm pl) pt) (.str (nm fV) ud))),(Z+1,bU (.str (nm [mk]) (tokw+6)))],rights (cH R))∧qg R=.func (bodyOf (fdOf P 872)) (gK P Z)∧eF R=.lv (leaving (gK P Z)) .base∧zZ R=0∧dw R=szp+3∧bk R=tokp+2∧rF R=(aj (aj (aj (aj (aj (aj (aj (aj (aj (aj (aj (aj (aj (fun _ _=>False) (Xw)) (cQ)) (cQ)) (cQ)) (cQ)) (cQ)) (cQ)) (X1)) (o3.X)) (cQ)) (cQ)) (X2)) (Xp)):=⟨(RB P S epS W epW n3 szw tokw xa szx tokx ya szy toky ra szp tokp mk vsS was Xw X1 X2 Xp nS d2 d5 f pl pt ud p1 p2 p3 o3 x3 Z V),rfl,by kernel_rfl,by kernel_rfl,by kernel_rfl,by kernel_rfl,by kernel_rfl,by kernel_rfl,by kernel_rfl⟩
noncomputable def KQ (P:Params)(S epS W epW n3 szw tokw xa szx tokx ya szy toky ra szp tokp mk:Nat)(vsS was:List Value)(Xw X1 X2 Xp:bw)(nS d2 d5:Int)(f:List Nat)(pl:List Nat)(pt:Nat)(ud:Nat)(p1 p2 p3:List (List Nat×Nat))(o3:CompOut)(x3:Value)(Z V:Nat):Result→Sem Fin:=Ox (Jv (RB P S epS W epW n3 szw tokw xa szx tokx ya szy toky ra szp tokp mk vsS was Xw X1 X2 Xp nS d2 d5 f pl pt ud p1 p2 p3 o3 x3 Z V))
noncomputable def I2 (P:Params)(S epS W epW n3 szw tokw xa szx tokx ya szy toky ra szp tokp mk:Nat)(vsS was:List Value)(Xw X1 X2 Xp:bw)(nS d2 d5:Int)(f:List Nat)(pl:List Nat)(pt:Nat)(ud:Nat)(p1 p2 p3:List (List Nat×Nat))(o3:CompOut)(x3:Value)(k:Hk)(sl:Array (Option Value))(ta ept lt n9 n10:Nat)(line:List Nat)(pt1:List (List Nat×Nat))(o9 o10:CompOut)(x9 x10:Value)(u1 szn tokn sz1 tok1:Nat)(Z V:Nat):Res:=uv P none 310 83 V0 (.func (bodyOf (fdOf P 872)) (gK P Z)) (.lv (leaving (gK P Z)) .base) 0 (KQ P S epS W epW n3 szw tokw xa szx tokx ya szy toky ra szp tokp mk vsS was Xw X1 X2 Xp nS d2 d5 f pl pt ud p1 p2 p3 o3 x3 Z V (.ok (.ret (.ref ta)))) [(Z,{d8 k S W ya f line (tokw+7+d5.toNat) lt (.str (nm pl) pt) (.str (nm fV) ud) with slots:=sl}),(Z+1,bU (.str (nm [mk]) (tokw+6))),(ta,aa ept (tvs pt1))] sz1 tok1 [(ya,aa 0 (tvs p2))] (qR 4 (fun _=>[(ta,aa ept (tvs pt1))]) ta ya false (bc 56 (cC 500 (dK (K3 P) (NT P Z (sz1+2)) sz1 (sz1+1)) iT (sz1+2) sz1 ya (sz1+1) n9 (some x9) o9) (sz1+3) tok1 (bc 448 (cC 500 (dK (yL P) (Ar P Z (o9.Z+2)) o9.Z (o9.Z+1)) iT (o9.Z+2) o9.Z ya (o9.Z+1) n10 (some x10) o10) (o9.Z+3) o9.V (qR 144 (fun _=>[(sz1+1,aa o9.ep o9.vs),(o9.Z+1,aa o10.ep o10.vs)]) (sz1+1) (o9.Z+1) false (bc 0 (qP 126 line lt pl u1 szn tokn) o10.Z o10.V (bN (nm pl) (nm pl) true (.nil)))))))
theorem kj (P:Params)(S epS W epW n3 szw tokw xa szx tokx ya szy toky ra szp tokp mk:Nat)(vsS was:List Value)(Xw X1 X2 Xp:bw)(nS d2 d5:Int)(f:List Nat)(pl:List Nat)(pt:Nat)(ud:Nat)(p1 p2 p3:List (List Nat×Nat))(o3:CompOut)(x3:Value)(k:Hk)(sl:Array (Option Value))(ta ept lt n9 n10:Nat)(line:List Nat)(pt1:List (List Nat×Nat))(o9 o10:CompOut)(x9 x10:Value)(u1 szn tokn sz1 tok1:Nat)(Z V:Nat):∃R:Res,I2 P S epS W epW n3 szw tokw xa szx tokx ya szy toky ra szp tokp mk vsS was Xw X1 X2 Xp nS d2 d5 f pl pt ud p1 p2 p3 o3 x3 k sl ta ept lt n9 n10 line pt1 o9 o10 x9 x10 u1 szn tokn sz1 tok1 Z V=R∧(K4 R,vh (Jv R),di 1 (fH R),oE (cH R))=(true,some (.call (.ref 867) ⟨[.str (nm (pl)) (pt)],[]⟩),[(Z,{d8 (ak R 0) S W ya f line (tokw+7+d5.toNat) lt (.str (nm pl) pt) (.str (nm fV) ud) with slots:=sl})],rights (cH R))∧qg R=.func (bodyOf (fdOf P 872)) (gK P Z)∧eF R=.lv (leaving (gK P Z)) .base∧zZ R=0∧dw R=szn∧bk R=tokn∧rF R=(aj (aj (aj (aj (aj (aj (fun _ _=>False) (cQ)) (o9.X)) (o10.X)) (cQ)) (cQ)) (cQ)):=⟨(I2 P S epS W epW n3 szw tokw xa szx tokx ya szy toky ra szp tokp mk vsS was Xw X1 X2 Xp nS d2 d5 f pl pt ud p1 p2 p3 o3 x3 k sl ta ept lt n9 n10 line pt1 o9 o10 x9 x10 u1 szn tokn sz1 tok1 Z V),rfl,by kernel_rfl,by kernel_rfl,by kernel_rfl,by kernel_rfl,by kernel_rfl,by kernel_rfl,by kernel_rfl⟩
noncomputable def OJ (P:Params)(S epS W epW n3 szw tokw xa szx tokx ya szy toky ra szp tokp mk:Nat)(vsS was:List Value)(Xw X1 X2 Xp:bw)(nS d2 d5:Int)(f:List Nat)(pl:List Nat)(pt:Nat)(ud:Nat)(p1 p2 p3:List (List Nat×Nat))(o3:CompOut)(x3:Value)(k:Hk)(sl:Array (Option Value))(ta ept lt n9 n10:Nat)(line:List Nat)(pt1:List (List Nat×Nat))(o9 o10:CompOut)(x9 x10:Value)(u1 szn tokn sz1 tok1:Nat)(Z V:Nat):Result→Sem Fin:=Ox (Jv (I2 P S epS W epW n3 szw tokw xa szx tokx ya szy toky ra szp tokp mk vsS was Xw X1 X2 Xp nS d2 d5 f pl pt ud p1 p2 p3 o3 x3 k sl ta ept lt n9 n10 line pt1 o9 o10 x9 x10 u1 szn tokn sz1 tok1 Z V))
noncomputable def U6 (P:Params)(S epS W epW n3 szw tokw xa szx tokx ya szy toky ra szp tokp mk:Nat)(vsS was:List Value)(Xw X1 X2 Xp:bw)(nS d2 d5:Int)(f:List Nat)(pl:List Nat)(pt:Nat)(ud:Nat)(p1 p2 p3:List (List Nat×Nat))(o3:CompOut)(x3:Value)(k:Hk)(sl:Array (Option Value))(ta ept lt n9 n10:Nat)(line:List Nat)(pt1:List (List Nat×Nat))(o9 o10:CompOut)(x9 x10:Value)(u1 szn tokn sz1 tok1:Nat)(k2:Hk)(sl2:Array (Option Value))(sz2 tok2:Nat)(ub:Nat)(Z V:Nat):Res:=uv P none 310 9 65537 (.func (bodyOf (fdOf P 872)) (gK P Z)) (.lv (leaving (gK P Z)) .base) 0 (OJ P S epS W epW n3 szw tokw xa szx tokx ya szy toky ra szp tokp mk vsS was Xw X1 X2 Xp nS d2 d5 f pl pt ud p1 p2 p3 o3 x3 k sl ta ept lt n9 n10 line pt1 o9 o10 x9 x10 u1 szn tokn sz1 tok1 Z V (.ok (.ret (.str (nm fV) ub)))) [(Z,{d8 k2 S W ya f line (tokw+7+d5.toNat) lt (.str (nm pl) pt) (.str (nm fV) ud) with slots:=sl2})] sz2 tok2 [] (bN (nm fV) (nm fV) true .nil)
theorem v9 P S epS W epW n3 szw tokw xa szx tokx ya szy toky ra szp tokp mk vsS was Xw X1 X2 Xp nS d2 d5 f pl pt ud p1 p2 p3 o3 x3 k sl ta ept lt n9 n10 line pt1 o9 o10 x9 x10 u1 szn tokn sz1 tok1 k2 sl2 sz2 tok2 ub Z V:Fb (U6 P S epS W epW n3 szw tokw xa szx tokx ya szy toky ra szp tokp mk vsS was Xw X1 X2 Xp nS d2 d5 f pl pt ud p1 p2 p3 o3 x3 k sl ta ept lt n9 n10 line pt1 o9 o10 x9 x10 u1 szn tokn sz1 tok1 k2 sl2 sz2 tok2 ub Z V) 0 (.done (.ret (.bool true))) (fun _=>[]):=⟨by kernel_rfl⟩
noncomputable def qu (m:Nat)(t:List Nat):List Nat:=[m]++t++[m]
theorem PK {f:List Nat}(h:∀c∈f,oK c=false∧gG c=false):∀{r tk:List Nat} {q:Bool},bx .wd (f++r) tk q=bx .wd r (tk++f) q:=by
 induction f with
 |nil=>intro r tk q;rw[List.append_nil];rfl
 |cons c f ih=>
  intro r tk q
  obtain⟨h1,h2⟩:=h c (.head _)
  show bx .wd (c::(f++r)) tk q=_
  rw[bx,h1,h2,if_neg (by decide),if_neg (by decide),ih fun d hd=>h d (.tail _ hd),List.append_assoc]
  rfl
theorem Ku {m:Nat}{t:List Nat}(h:m∉t):∀{r tk:List Nat} {q:Bool},bx (.qt m) (t++m::r) tk q=bx .wd r (tk++t) true:=by
 induction t with
 |nil=>
  intro r tk q
  show bx (.qt m) (m::r) tk q=_
  rw[bx,if_pos (by simp),List.append_nil]
 |cons c t ih=>
  intro r tk q
  show bx (.qt m) (c::(t++m::r)) tk q=_
  rw[bx,if_neg (by simp;exact fun e=>h (e▸List.mem_cons_self ..)),ih (fun e=>h (List.mem_cons_of_mem _ e)),List.append_assoc]
  rfl
theorem zJ {m:Nat}(h:gG m=true):oK m=false:=by
 unfold gG at h
 simp only[List.mem_cons,List.not_mem_nil,or_false,decide_eq_true_eq] at h
 rcases h with rfl|rfl<;>rfl
theorem BW {m:Nat}(hm:gG m=true):∀{f:List Nat} (_:∀c∈f,oK c=false∧gG c=false) {r:List Nat},bx .sp (f++m::r) [] false=bx (.qt m) r f false
 |[],_,r=>by
  show bx .sp (m::r) [] false=_
  rw[bx,zJ hm,hm,if_neg (by decide),if_pos rfl]
 |c::f,h,r=>by
  obtain⟨h1,h2⟩:=h c (.head _)
  show bx .sp (c::(f++m::r)) [] false=_
  rw[bx,h1,h2,if_neg (by decide),if_neg (by decide),PK fun d hd=>h d (.tail _ hd),bx,zJ hm,hm,if_neg (by decide),if_pos rfl]
  rfl
theorem u5 {m:Nat}(hm:gG m=true):∀(T:List (List Nat)) (t f:List Nat),(∀x∈t::T,m∉x)→(∀c∈f,oK c=false∧gG c=false)→Toks .sp (f++ao [32] ((t::T).map (qu m))) ((f++t)::T) .fin []
 |[],t,f,h,hf=>by
  have e:f++ao [32] ([t].map (qu m))=f++m::(t++m::[]):=by
   show f++([m]++t++[m])=_
   simp
  rw[e]
  refine .cons (st1:=.fin) (r1:=[]) (q:=true) ?_ rfl (.nil .fin [])
  rw[BW hm hf,Ku (h t (.head _))]
  rfl
 |u::T,t,f,h,hf=>by
  have e:f++ao [32] ((t::u::T).map (qu m))=f++m::(t++m::32::ao [32] ((u::T).map (qu m))):=by
   show f++(qu m t++[32]++ao [32] ((u::T).map (qu m)))=_
   unfold qu
   simp
  rw[e]
  refine .cons (st1:=.sp) (r1:=ao [32] ((u::T).map (qu m))) (q:=true) ?_ rfl ?_
  ·rw[BW hm hf,Ku (h t (.head _)),bx,if_pos (by decide)]
  ·have:=u5 hm T u [] (fun x hx=>h x (.tail _ hx)) (fun c hc=>nomatch hc)
   exact this
theorem nQ {m:Nat}(hm:gG m=true):∀(l:List Nat) (st:LS) (tk:List Nat) (q:Bool),(∀c∈l,gG c=true→c=m)→
  (((st=.sp∧tk=[]∧q=false)∨(st=.wd∧(q || !tk.isEmpty)=true))∧l.count m%2=1∨st=.qt m∧l.count m%2=0)→
  (∃o,jk st l tk q=some o)∨∃tk' q' r',bx st l tk q=some (tk',q',.sp,r')∧(q' || !tk'.isEmpty)=true∧r'.count m%2=1∧r' <:+ l∧r'.length<l.length
 |[],st,tk,q,_,h=>by
  rcases h with⟨_,h⟩|⟨rfl,_⟩
  ·cases h
  ·exact .inl ⟨_,rfl⟩
 |c::l,st,tk,q,hq,h=>by
  have hq':∀c∈l,gG c=true→c=m:=fun d hd=>hq d (.tail _ hd)
  have lift:∀{st':LS} {tk2:List Nat} {q2:Bool},jk st (c::l) tk q=jk st' l tk2 q2→bx st (c::l) tk q=bx st' l tk2 q2→
    ((∃o,jk st' l tk2 q2=some o)∨∃tk' q' r',bx st' l tk2 q2=some (tk',q',.sp,r')∧(q' || !tk'.isEmpty)=true∧r'.count m%2=1∧r' <:+ l∧r'.length<l.length)→
    ((∃o,jk st (c::l) tk q=some o)∨∃tk' q' r',bx st (c::l) tk q=some (tk',q',.sp,r')∧(q' || !tk'.isEmpty)=true∧r'.count m%2=1∧r' <:+ (c::l)∧r'.length<(c::l).length):=by
   intro st' tk2 q2 e1 e2 h
   rw[e1,e2]
   refine h.imp id ?_
   rintro ⟨tk',q',r',h1,h2,h3,h4,h5⟩
   exact⟨tk',q',r',h1,h2,h3,h4.trans (List.suffix_cons c l),Nat.lt_succ_of_lt h5⟩
  rw[List.count_cons] at h
  rcases h with⟨hs,h⟩|⟨rfl,h⟩
  ·by_cases hcm:c=m
   ·subst hcm
    have h':l.count c%2=0:=by simp at h;lia
    have hsp:=zJ hm
    rcases hs with⟨rfl,rfl,rfl⟩|⟨rfl,hne⟩
    ·exact lift (st':=.qt c) (by rw[jk,hsp,hm,if_neg (by decide),if_pos rfl]) (by rw[bx,hsp,hm,if_neg (by decide),if_pos rfl]) (nQ hm l _ _ _ hq' (.inr ⟨rfl,h'⟩))
    ·exact lift (st':=.qt c) (by rw[jk,hsp,hm,if_neg (by decide),if_pos rfl]) (by rw[bx,hsp,hm,if_neg (by decide),if_pos rfl]) (nQ hm l _ _ _ hq' (.inr ⟨rfl,h'⟩))
   ·have hnq:gG c=false:=by
     cases e:gG c with
     |false=>rfl
     |true=>exact absurd (hq c (.head _) e) hcm
    have h':l.count m%2=1:=by rw[if_neg (by simp;exact hcm)] at h;simpa using h
    cases hsp:oK c with
    |true=>
     rcases hs with⟨rfl,rfl,rfl⟩|⟨rfl,hne⟩
     ·exact lift (st':=.sp) (by rw[jk,hsp,if_pos rfl]) (by rw[bx,hsp,if_pos rfl]) (nQ hm l _ _ _ hq' (.inl ⟨.inl ⟨rfl,rfl,rfl⟩,h'⟩))
     ·refine .inr ⟨tk,q,l,by rw[bx,hsp,if_pos rfl],hne,h',List.suffix_cons c l,Nat.lt_succ_self _⟩
    |false=>
     rcases hs with⟨rfl,rfl,rfl⟩|⟨rfl,hne⟩
     ·exact lift (st':=.wd) (by rw[jk,hsp,hnq,if_neg (by decide),if_neg (by decide)]) (by rw[bx,hsp,hnq,if_neg (by decide),if_neg (by decide)]) (nQ hm l _ _ _ hq' (.inl ⟨.inr ⟨rfl,rfl⟩,h'⟩))
     ·exact lift (st':=.wd) (by rw[jk,hsp,hnq,if_neg (by decide),if_neg (by decide)]) (by rw[bx,hsp,hnq,if_neg (by decide),if_neg (by decide)]) (nQ hm l _ _ _ hq' (.inl ⟨.inr ⟨rfl,by cases tk<;>simp⟩,h'⟩))
  ·by_cases hcm:c=m
   ·subst hcm
    have h':l.count c%2=1:=by simp at h;lia
    exact lift (st':=.wd) (by rw[jk,if_pos (by simp)]) (by rw[bx,if_pos (by simp)]) (nQ hm l _ _ _ hq' (.inl ⟨.inr ⟨rfl,rfl⟩,h'⟩))
   ·have h':l.count m%2=0:=by rw[if_neg (by simp;exact hcm)] at h;simpa using h
    exact lift (st':=.qt m) (by rw[jk,if_neg (by simp;exact hcm)]) (by rw[bx,if_neg (by simp;exact hcm)]) (nQ hm l _ _ _ hq' (.inr ⟨rfl,h'⟩))
theorem eZ {m:Nat}(hm:gG m=true):∀(n:Nat) (l:List Nat),l.length≤n→(∀c∈l,gG c=true→c=m)→l.count m%2=1→∃ts r x tk q,Toks .sp l ts .sp r∧ts.length≤l.length∧jk .sp r [] false=some (x,tk,q)
 |n,l,hn,hq,h=>by
  rcases nQ hm l .sp [] false hq (.inl ⟨.inl ⟨rfl,rfl,rfl⟩,h⟩) with⟨⟨x,tk,q⟩,ho⟩|⟨tk',q',r',h1,h2,h3,h4,h5⟩
  ·exact⟨[],l,x,tk,q,.nil _ _,Nat.zero_le _,ho⟩
  ·cases n with
   |zero=>lia
   |succ n=>
    refine ni (eZ hm n r' (by lia) (fun c hc=>hq c (h4.subset hc)) h3) fun ts r x tk q g1 g2 g3=>?_
    exact⟨tk'::ts,r,x,tk,q,.cons h1 h2 g1,by rw[List.length_cons];lia,g3⟩
noncomputable def cF {α:Type}(kd:α→Nat)(a:α)(s:Nat×List α):Nat×List α:=
 if kd a=0 then(s.1+1,s.2) else if kd a=1 then s else if 0<s.1 then(s.1-1,s.2) else(s.1,a::s.2)
noncomputable def gH {α:Type}(kd:α→Nat)(l:List α):Nat×List α:=l.foldr (cF kd) (0,[])
noncomputable def kdP (p:List Nat):Nat:=if p=[46,46] then 0 else if p=[]∨p=[46] then 1 else 2
noncomputable def yD (items:List (List (List Nat)))(mk:Bool)(k:Nat):Nat:=
 if isName items mk k=false∧items.getD k []=[[46,46]] then 0 else if isName items mk k=false∧(items.getD k []=[[]]∨items.getD k []=[[46]]) then 1 else 2
theorem Df (items:List (List (List Nat)))(mk:Bool)(k:Nat)(s:Nat×List Nat):cO items mk k s=cF (yD items mk) k s:=by
 unfold cO cF yD
 by_cases h1:isName items mk k=false∧items.getD k []=[[46,46]]
 ·rw[if_pos h1,if_pos h1,if_pos rfl]
 ·rw[if_neg h1,if_neg h1]
  by_cases h2:isName items mk k=false∧(items.getD k []=[[]]∨items.getD k []=[[46]])
  ·rw[if_pos h2,if_pos h2,if_neg (by decide),if_pos rfl]
  ·rw[if_neg h2,if_neg h2,if_neg (show ¬(2=0) by decide),if_neg (show ¬(2=1) by decide)]
theorem vL (items:List (List (List Nat)))(mk:Bool):∀(j:Nat) (s:Nat×List Nat),mz items mk j s=(List.range j).foldr (cF (yD items mk)) s
 |0,s=>rfl
 |j+1,s=>by
  rw[List.range_succ,List.foldr_append]
  show mz items mk j (cO items mk j s)=_
  rw[vL items mk j,Df]
  rfl
theorem iV (items:List (List (List Nat)))(mk:Bool):cM items mk=gH (yD items mk) (List.range items.length):=vL items mk _ _
theorem uY {α:Type}{kd kd':α→Nat}:∀{l:List α},(∀a∈l,kd a=kd' a)→gH kd l=gH kd' l
 |[],_=>rfl
 |a::l,h=>by
  show cF kd a (gH kd l)=cF kd' a (gH kd' l)
  rw[uY (l:=l) fun b hb=>h b (.tail _ hb)]
  unfold cF
  rw[h a (.head _)]
theorem zF {α β:Type}(kd:β→Nat)(g:α→β):∀(l:List α),gH kd (l.map g)=((gH (fun a=>kd (g a)) l).1,(gH (fun a=>kd (g a)) l).2.map g)
 |[]=>rfl
 |a::l=>by
  show cF kd (g a) (gH kd (l.map g))=_
  rw[zF kd g l]
  show _=((cF (fun a=>kd (g a)) a (gH (fun a=>kd (g a)) l)).1,(cF (fun a=>kd (g a)) a (gH (fun a=>kd (g a)) l)).2.map g)
  unfold cF
  dsimp only
  split
  ·rfl
  ·split
   ·rfl
   ·split<;>rfl
theorem map_range {α:Type}(P:List α)(d:α):(List.range P.length).map (fun k=>P.getD k d)=P:=by
 apply List.ext_getElem
 ·simp
 ·intro i h1 h2
  simp[List.getD_eq_getElem?_getD]
  have:i<P.length:=by simpa using h2
  rw[List.getElem?_eq_getElem this]
  rfl
theorem Gx (P:List (List Nat))(k:Nat)(h:k<P.length):yD (P.map fun p=>[p]) false k=kdP (P.getD k []):=by
 have e:(P.map fun p=>[p]).getD k []=[P.getD k []]:=by
  rw[List.getD_eq_getElem?_getD,List.getD_eq_getElem?_getD,List.getElem?_map,List.getElem?_eq_getElem h]
  rfl
 have hn:isName (P.map fun p=>[p]) false k=false:=by
  unfold isName
  rw[e]
  rfl
 unfold yD kdP
 rw[e,hn]
 simp
theorem Br (P:List (List Nat)):(cM (P.map fun p=>[p]) false).1=(gH kdP P).1∧(cM (P.map fun p=>[p]) false).2.map (fun k=>P.getD k [])=(gH kdP P).2:=by
 have h:gH kdP P=gH kdP ((List.range P.length).map (fun k=>P.getD k [])):=by rw[map_range]
 rw[h,zF,iV,List.length_map]
 rw[uY (kd:=yD (P.map fun p=>[p]) false) (kd':=fun k=>kdP (P.getD k [])) fun k hk=>Gx P k (List.mem_range.mp hk)]
 exact⟨rfl,rfl⟩
noncomputable def DG (root:List Nat)(n:Nat):List (List Nat):=if root=[] then List.replicate n [46,46] else []
theorem rT (root:List Nat):∀(P:List (List Nat)) (u:Nat) (N:List (List Nat)),(root≠[]→u=0)→(∀x∈N,x≠[46,46])→
  P.foldl (bf root) (List.replicate u [46,46]++N)=if(gH kdP P).1≤N.length then List.replicate u [46,46]++N.take (N.length-(gH kdP P).1)++(gH kdP P).2 else DG root (u+((gH kdP P).1-N.length))++(gH kdP P).2
 |[],u,N,_,_=>by
  show List.replicate u [46,46]++N=if 0≤N.length then List.replicate u [46,46]++N.take (N.length-0)++[] else _
  rw[if_pos (Nat.zero_le _),Nat.sub_zero,List.take_length,List.append_nil]
 |p::P,u,N,hu,hN=>by
  have e:gH kdP (p::P)=cF kdP p (gH kdP P):=rfl
  rw[e]
  show P.foldl (bf root) (bf root (List.replicate u [46,46]++N) p)=_
  by_cases h1:p=[]∨p=[46]
  ·have hk:kdP p=1:=by rcases h1 with rfl|rfl<;>rfl
   have hs:cF kdP p (gH kdP P)=gH kdP P:=by unfold cF;rw[hk,if_neg (by decide),if_pos rfl]
   rw[hs,bf,if_pos h1]
   exact rT root P u N hu hN
  ·by_cases h2:p=[46,46]
   ·have hk:kdP p=0:=by rw[h2];rfl
    have hs:cF kdP p (gH kdP P)=((gH kdP P).1+1,(gH kdP P).2):=by unfold cF;rw[hk,if_pos rfl]
    rw[hs]
    rw[bf,if_neg h1,if_neg (by simp[h2])]
    rcases List.eq_nil_or_concat N with rfl|⟨N',y,rfl⟩
    ·by_cases hr:root=[]
     ·have hc:(root=[]∧List.replicate u [46,46]++([]:List (List Nat))=[])∨(List.replicate u [46,46]++([]:List (List Nat))).getLast?=some [46,46]:=by
       cases u with
       |zero=>exact .inl ⟨hr,rfl⟩
       |succ u=>right;rw[List.append_nil,List.getLast?_replicate];simp
      rw[if_pos hc,h2,List.append_nil]
      have e2:List.replicate u [46,46]++[[46,46]]=List.replicate (u+1) ([46,46]:List Nat)++[]:=by
       rw[List.append_nil,List.replicate_succ']
      rw[e2,rT root P (u+1) [] (fun h=>absurd hr h) (fun x hx=>nomatch hx)]
      simp only[List.length_nil,Nat.sub_zero,List.take_nil,List.append_nil,Nat.le_zero]
      unfold DG
      rw[if_pos hr,if_pos hr,if_neg (show ¬((gH kdP P).1+1=0) by lia)]
      by_cases hd:(gH kdP P).1=0
      ·rw[if_pos hd,hd]
      ·rw[if_neg hd]
       have:u+1+(gH kdP P).1=u+((gH kdP P).1+1):=by lia
       rw[this]
     ·have hu0:=hu hr
      subst hu0
      have hc:¬((root=[]∧List.replicate 0 [46,46]++([]:List (List Nat))=[])∨(List.replicate 0 [46,46]++([]:List (List Nat))).getLast?=some [46,46]):=by
       rintro (h|h)
       ·exact hr h.1
       ·cases h
      rw[if_neg hc]
      have:=rT root P 0 [] hu (fun x hx=>nomatch hx)
      show P.foldl (bf root) (List.replicate 0 [46,46]++[])=_
      rw[this]
      simp only[List.length_nil,Nat.sub_zero,List.take_nil,List.append_nil,Nat.le_zero]
      unfold DG
      rw[if_neg hr,if_neg hr,if_neg (show ¬((gH kdP P).1+1=0) by lia)]
      simp
    ·have hy:y≠[46,46]:=hN y (by simp)
     have hne:List.replicate u ([46,46]:List Nat)++N'.concat y≠[]:=by simp
     have hlast:(List.replicate u ([46,46]:List Nat)++N'.concat y).getLast?=some y:=by
      rw[List.concat_eq_append,←List.append_assoc,List.getLast?_append];rfl
     have hc:¬((root=[]∧List.replicate u [46,46]++N'.concat y=[])∨(List.replicate u [46,46]++N'.concat y).getLast?=some [46,46]):=by
      rintro (h|h)
      ·exact hne h.2
      ·rw[hlast] at h
       injection h with h
       exact hy h
     rw[if_neg hc]
     have ed:(List.replicate u ([46,46]:List Nat)++N'.concat y).dropLast=List.replicate u [46,46]++N':=by
      rw[List.concat_eq_append,←List.append_assoc,List.dropLast_concat]
     rw[ed,rT root P u N' hu (fun x hx=>hN x (by simp[hx]))]
     rw[List.concat_eq_append,List.length_append,List.length_singleton]
     by_cases hd:(gH kdP P).1≤N'.length
     ·rw[if_pos hd,if_pos (by lia)]
      have e3:N'.length+1-((gH kdP P).1+1)=N'.length-(gH kdP P).1:=by lia
      rw[e3,List.take_append_of_le_length (by lia)]
     ·rw[if_neg hd,if_neg (by lia)]
      have e3:(gH kdP P).1+1-(N'.length+1)=(gH kdP P).1-N'.length:=by lia
      rw[e3]
   ·have hk:kdP p=2:=by unfold kdP;rw[if_neg h2,if_neg h1]
    rw[bf,if_neg h1,if_pos h2,List.append_assoc]
    rw[rT root P u (N++[p]) hu (fun x hx=>by
     rcases List.mem_append.mp hx with h|h
     ·exact hN x h
     ·rw[List.mem_singleton] at h;rw[h];exact h2)]
    rw[List.length_append,List.length_singleton]
    by_cases hd:0<(gH kdP P).1
    ·have hs:cF kdP p (gH kdP P)=((gH kdP P).1-1,(gH kdP P).2):=by unfold cF;rw[hk,if_neg (by decide),if_neg (by decide),if_pos hd]
     rw[hs]
     by_cases hle:(gH kdP P).1≤N.length+1
     ·rw[if_pos hle,if_pos (by show(gH kdP P).1-1≤_;lia)]
      have e3:N.length+1-(gH kdP P).1=N.length-((gH kdP P).1-1):=by lia
      rw[e3,List.take_append_of_le_length (by lia)]
     ·rw[if_neg hle,if_neg (by show ¬(gH kdP P).1-1≤_;lia)]
      have e3:(gH kdP P).1-(N.length+1)=(gH kdP P).1-1-N.length:=by lia
      rw[e3]
    ·have hs:cF kdP p (gH kdP P)=((gH kdP P).1,p::(gH kdP P).2):=by unfold cF;rw[hk,if_neg (by decide),if_neg (by decide),if_neg hd]
     have h0:(gH kdP P).1=0:=by lia
     rw[hs,h0,if_pos (Nat.zero_le _),if_pos (Nat.zero_le _),Nat.sub_zero,Nat.sub_zero,List.take_length]
     have:N.length+1=(N++[p]).length:=by simp
     rw[this,List.take_length]
     simp
theorem jC (root:List Nat)(P:List (List Nat)):P.foldl (bf root) []=DG root (gH kdP P).1++(gH kdP P).2:=by
 have h:=rT root P 0 [] (fun _=>rfl) (fun x hx=>nomatch hx)
 have e:List.replicate 0 ([46,46]:List Nat)++[]=[]:=rfl
 rw[e] at h
 rw[h]
 by_cases hd:(gH kdP P).1≤([]:List (List Nat)).length
 ·have h0:(gH kdP P).1=0:=by simpa using hd
  rw[if_pos hd,h0]
  unfold DG
  simp
 ·rw[if_neg hd]
  simp
theorem jE (root:List Nat)(P:List (List Nat)):([]::P).foldl (bf root) []=P.foldl (bf root) []:=by
 show P.foldl (bf root) (bf root [] [])=_
 rw[bf,if_pos (.inl rfl)]
theorem uK (l:List Nat):placeOf l=qM (rootOf l++ao [47] ((aQ 47 l).foldl (bf (rootOf l)) [])):=by
 obtain⟨h1,h2⟩:=Br (aQ 47 l)
 unfold placeOf
 rw[h1,h2,jC]
 rfl
theorem qC {c:Nat}{r:List Nat}(h:c≠47):rootOf (c::r)=[]:=by
 unfold rootOf
 rw[List.takeWhile_cons,if_neg (by simp;exact h)]
 rfl
theorem Rv:rootOf []=[]:=rfl
theorem gR (r:List Nat):aQ 47 (47::r)=[]::aQ 47 r:=by rw[aQ,if_pos rfl]
theorem VR (c:Nat)(r:List Nat):dX none (some 1) (c::r)=[c]:=by
 unfold dX uQ vZ
 have e:min (Option.getD (some 1) (c::r).length) (c::r).length=1:=by rw[List.length_cons];show min 1 _=1;lia
 have e2:min (Option.getD none 0) (c::r).length=0:=by show min 0 _=0;lia
 rw[e,e2]
 rfl
theorem Yg (c:Nat)(r:List Nat):dX (some 1) (some 2) (c::r)=r.take 1:=by
 cases r with
 |nil=>rfl
 |cons d r=>
  unfold dX uQ vZ
  have e:min (Option.getD (some 2) (c::d::r).length) (c::d::r).length=2:=by rw[List.length_cons,List.length_cons];show min 2 _=2;lia
  have e2:min (Option.getD (some 1) 0) (c::d::r).length=1:=by rw[List.length_cons,List.length_cons];show min 1 _=1;lia
  rw[e,e2]
  rfl
theorem Yh (c d:Nat)(r:List Nat):dX (some 2) (some 3) (c::d::r)=r.take 1:=by
 cases r with
 |nil=>rfl
 |cons x r=>
  unfold dX uQ vZ
  have e:min (Option.getD (some 3) (c::d::x::r).length) (c::d::x::r).length=3:=by rw[List.length_cons,List.length_cons,List.length_cons];show min 3 _=3;lia
  have e2:min (Option.getD (some 2) 0) (c::d::x::r).length=2:=by rw[List.length_cons,List.length_cons,List.length_cons];show min 2 _=2;lia
  rw[e,e2]
  rfl
theorem XQ (c:Nat)(r:List Nat):dX (some 1) none (c::r)=r:=by
 unfold dX uQ vZ
 have e2:min (Option.getD (some 1) 0) (c::r).length=1:=by rw[List.length_cons];show min 1 _=1;lia
 have e:min (Option.getD none (c::r).length) (c::r).length=(c::r).length:=by show min (c::r).length _=_;lia
 rw[e,e2]
 show List.take (r.length+1-1) r=r
 rw[Nat.add_sub_cancel,List.take_length]
theorem Yi (c d:Nat)(r:List Nat):dX none (some 2) (c::d::r)=[c,d]:=by
 unfold dX uQ vZ
 have e:min (Option.getD (some 2) (c::d::r).length) (c::d::r).length=2:=by rw[List.length_cons,List.length_cons];show min 2 _=2;lia
 have e2:min (Option.getD none 0) (c::d::r).length=0:=by show min 0 _=0;lia
 rw[e,e2]
 rfl
theorem XD (c d:Nat)(r:List Nat):dX (some 2) none (c::d::r)=r:=by
 unfold dX uQ vZ
 have e2:min (Option.getD (some 2) 0) (c::d::r).length=2:=by rw[List.length_cons,List.length_cons];show min 2 _=2;lia
 have e:min (Option.getD none (c::d::r).length) (c::d::r).length=(c::d::r).length:=by show min (c::d::r).length _=_;lia
 rw[e,e2]
 show List.take (r.length+1+1-2) r=r
 have:r.length+1+1-2=r.length:=by lia
 rw[this,List.take_length]
theorem Fw {d:Nat}{r:List Nat}(h:d≠47):rootOf (47::d::r)=[47]:=by
 unfold rootOf
 rw[List.takeWhile_cons,if_pos (by rfl),List.takeWhile_cons,if_neg (by simp;exact h)]
 rfl
theorem FJ {d:Nat}{r:List Nat}(h:d≠47):rootOf (47::47::d::r)=[47,47]:=by
 unfold rootOf
 rw[List.takeWhile_cons,if_pos (by rfl),List.takeWhile_cons,if_pos (by rfl),List.takeWhile_cons,if_neg (by simp;exact h)]
 rfl
theorem Em {r:List Nat}:rootOf (47::47::47::r)=[47]:=by
 unfold rootOf
 rw[List.takeWhile_cons,if_pos (by rfl),List.takeWhile_cons,if_pos (by rfl),List.takeWhile_cons,if_pos (by rfl)]
 rfl
theorem tZ (l:List Nat):eV l=placeOf l:=by
 rw[uK]
 match l with
 |[]=>rfl
 |c::r=>
  show Do (fX (c::r))=_
  by_cases hc:c=47
  ·subst hc
   have h1:fX (47::r)=if r.take 1≠[47]∨dX (some 2) (some 3) (47::r)=[47] then([47],r) else(dX none (some 2) (47::r),dX (some 2) none (47::r)):=by
    unfold fX
    rw[VR,if_neg (by simp),Yg,XQ]
   rw[h1,gR,jE]
   match r with
   |[]=>rfl
   |d::r=>
    by_cases hd:d=47
    ·subst hd
     rw[Yh]
     match r with
     |[]=>rfl
     |e::r=>
      by_cases he:e=47
      ·subst he
       rw[if_pos (.inr rfl),Em]
       rfl
      ·rw[if_neg (by rintro (h|h)<;>first|exact h rfl|(injection h with h;exact he h)),FJ he,Yi,XD,gR,jE]
       rfl
    ·rw[if_pos (.inl (by intro h;injection h with h;exact hd h)),Fw hd]
     rfl
  ·have h1:fX (c::r)=([],c::r):=by
    unfold fX
    rw[VR,if_pos (by intro h;injection h with h;exact hc h)]
   rw[h1,qC hc]
   rfl
inductive IsFront:List Nat→Prop where
 |no:IsFront []
 |one:IsFront [47]
 |two:IsFront [47,47]
 |three:IsFront [47,47,47]
 |up:IsFront [46,46,47]
theorem eH {sep x:List Nat}{T:List (List Nat)}(h:T≠[]):ao sep (x::T)=x++sep++ao sep T:=by
 cases T with
 |nil=>exact absurd rfl h
 |cons=>rfl
theorem oX {sep:List Nat}:∀{A B:List (List Nat)},A≠[]→B≠[]→ao sep (A++B)=ao sep A++sep++ao sep B
 |[],_,h,_=>absurd rfl h
 |[x],B,_,h=>eH h
 |x::y::A,B,_,h=>by
  show ao sep (x::((y::A)++B))=_
  rw[eH (by simp),oX (A:=y::A) (by simp) h]
  show _=x++sep++ao sep (y::A)++sep++ao sep B
  simp
theorem iC {sep x y:List Nat}:∀(A:List (List Nat)),ao sep (A++[x++y])=ao sep (A++[x])++y
 |[]=>rfl
 |a::A=>by
  rw[List.cons_append,List.cons_append,eH (by simp),eH (by simp),iC A]
  simp
theorem uX {sep x y:List Nat}:∀(A:List (List Nat)),ao sep ((x++y)::A)=x++ao sep (y::A)
 |[]=>rfl
 |a::A=>by
  rw[eH (T:=a::A) (by simp),eH (T:=a::A) (by simp)]
  simp
noncomputable def gl (m:Nat)(items:List (List (List Nat))):List Nat:=ao [47] (items.map (ao [m,32,m]))
theorem Mj (m:Nat){items:List (List (List Nat))}{wd:List (List Nat)}(h:items≠[])(hi:∀x∈items,x≠[])(hw:wd≠[]):gl m (aZ items wd)=gl m items++[m,32,m]++ao [47] wd:=by
 refine aJ (⟨items.dropLast,items.getLast h,(List.dropLast_concat_getLast h).symm⟩:∃A y,items=A++[y]) fun A y er6=>?_;subst er6
 have hy:y≠[]:=hi y (by simp)
 cases wd with
 |nil=>exact absurd rfl hw
 |cons w0 wr=>
  have e1:aZ (A++[y]) (w0::wr)=A++[y++[w0]]++wr.map fun p=>[p]:=by
   unfold aZ
   rw[List.dropLast_concat,List.getLast?_concat]
   rfl
  have e2:(wr.map fun p=>[p]).map (ao [m,32,m])=wr:=by
   rw[List.map_map]
   exact List.map_id' wr
  unfold gl
  rw[e1,List.map_append,List.map_append,List.map_append,e2]
  have e3:ao [m,32,m] (y++[w0])=ao [m,32,m] y++([m,32,m]++w0):=by
   rw[oX hy (by simp)]
   simp[ao]
  show ao [47] (A.map (ao [m,32,m])++[ao [m,32,m] (y++[w0])]++wr)=ao [47] (A.map (ao [m,32,m])++[ao [m,32,m] y])++[m,32,m]++ao [47] (w0::wr)
  cases wr with
  |nil=>
   rw[List.append_nil,e3,iC]
   simp[ao]
  |cons w1 wr=>
   rw[oX (B:=w1::wr) (by simp) (by simp),e3,iC,eH (T:=w1::wr) (by simp)]
   simp
theorem yU (items:List (List (List Nat)))(wd:List (List Nat))(hi:∀x∈items,x≠[]):aZ items wd≠[]∧∀x∈aZ items wd,x≠[]:=by
 refine⟨by unfold aZ;simp,fun x hx=>?_⟩
 unfold aZ at hx
 rcases List.mem_append.mp hx with hx|hx
 ·rcases List.mem_append.mp hx with hx|hx
  ·exact hi x (List.dropLast_subset _ hx)
  ·rw[List.mem_singleton] at hx
   rw[hx];simp
 ·refine aL (List.mem_map.mp hx) fun p _ er0=>?_;subst er0
  simp
theorem Eg (m:Nat):∀(ws items:List (List (List Nat))),items≠[]→(∀x∈items,x≠[])→(∀x∈ws,x≠[])→[m]++gl m (ws.foldl aZ items)++[m]=ao [32] (([m]++gl m items++[m])::ws.map fun wd=>qu m (ao [47] wd))
 |[],items,_,_,_=>rfl
 |wd::ws,items,h,hi,hw=>by
  obtain⟨g1,g2⟩:=yU items wd hi
  show [m]++gl m (ws.foldl aZ (aZ items wd))++[m]=_
  rw[Eg m ws (aZ items wd) g1 g2 fun x hx=>hw x (.tail _ hx),Mj m h hi (hw wd (.head _))]
  rw[List.map_cons,eH (T:=qu m (ao [47] wd)::_) (by simp)]
  have e:[m]++(gl m items++[m,32,m]++ao [47] wd)++[m]=([m]++gl m items++[m]++[32])++qu m (ao [47] wd):=by unfold qu;simp
  rw[e,uX]
theorem Dq (m:Nat){ws:List (List (List Nat))}(h:ws≠[])(hw:∀x∈ws,x≠[]):ao [32] ((aR ws []).map (qu m))=[m]++gl m (itemsOf ws)++[m]:=by
 cases ws with
 |nil=>exact absurd rfl h
 |cons w0 wr=>
  have h0:=hw w0 (.head _)
  have e0:gl m (w0.map fun p=>[p])=ao [47] w0:=by
   unfold gl
   rw[List.map_map]
   exact congrArg (ao [47]) (List.map_id' w0)
  have:=Eg m wr (w0.map fun p=>[p]) (by intro e;exact h0 (List.map_eq_nil_iff.mp e)) (fun x hx=>by refine aL (List.mem_map.mp hx) fun p _ er1=>?_;subst er1;simp) fun x hx=>hw x (.tail _ hx)
  show _=[m]++gl m (wr.foldl aZ (w0.map fun p=>[p]))++[m]
  rw[this,e0]
  show ao [32] (((([]:List Nat)++ao [47] w0)::wr.map (ao [47])).map (qu m))=_
  rw[List.map_cons,List.map_map]
  rfl
theorem vz {c x:Nat}(h:x≠c):∀l:List Nat,aQ c (l++[x])=(aQ c l).dropLast++[(aQ c l).getLast?.getD []++[x]]
 |[]=>by
  show(if x=c then []::aQ c [] else match aQ c [] with
   |h::t=>(x::h)::t
   |[]=>[[x]])=_
  rw[if_neg h]
  rfl
 |y::l=>by
  have ih:=vz h l
  show aQ c (y::(l++[x]))=_
  have hne:=jy c l
  rw[aQ,aQ]
  by_cases hy:y=c
  ·rw[if_pos hy,if_pos hy,ih]
   cases hs:aQ c l with
   |nil=>exact absurd hs hne
   |cons a b=>rfl
  ·rw[if_neg hy,if_neg hy,ih]
   cases hs:aQ c l with
   |nil=>exact absurd hs hne
   |cons a b=>
    cases b with
    |nil=>rfl
    |cons b d=>rfl
theorem vM {ws:List (List (List Nat))}{m:Nat}(hm:m≠47):eQ ws m=aQ 47 ([m]++gl m (itemsOf ws)++[m]):=by
 rw[vz hm]
 rfl
noncomputable def tx (m:Nat)(items:List (List (List Nat)))(k:Nat):List Nat:=
 (if k=0 then [m] else [])++ao [m,32,m] (items.getD k [])++(if k+1=items.length then [m] else [])
noncomputable def u9 (m:Nat):List (List Nat)→List (List Nat)
 |[]=>[]
 |[y]=>[y++[m]]
 |x::y::r=>x::u9 m (y::r)
noncomputable def pre (m:Nat):List (List Nat)→List (List Nat)
 |[]=>[]
 |x::r=>([m]++x)::r
theorem zy (m:Nat):∀{T:List (List Nat)},T≠[]→ao [47] (u9 m T)=ao [47] T++[m]∧u9 m T≠[]
 |[],h=>absurd rfl h
 |[y],_=>⟨rfl,by simp[u9]⟩
 |x::y::r,_=>by
  obtain⟨h1,h2⟩:=zy m (T:=y::r) (by simp)
  refine⟨?_,by simp[u9]⟩
  show ao [47] (x::u9 m (y::r))=_
  rw[eH h2,h1,eH (T:=y::r) (by simp)]
  simp
theorem BP (m:Nat):∀(T:List (List Nat)) (k:Nat),k<T.length→(u9 m T).getD k []=T.getD k []++(if k+1=T.length then [m] else [])
 |[],_,h=>by cases h
 |[y],0,_=>rfl
 |[y],k+1,h=>by simp at h
 |x::y::r,0,_=>by
  show x=x++(if 0+1=(x::y::r).length then [m] else [])
  rw[if_neg (by simp),List.append_nil]
 |x::y::r,k+1,h=>by
  have ih:=BP m (y::r) k (by simpa using h)
  show(u9 m (y::r)).getD k []=(y::r).getD k []++(if k+1+1=(x::y::r).length then [m] else [])
  rw[ih]
  simp only[List.length_cons,Nat.add_right_cancel_iff]
theorem Cp (m:Nat):∀(T:List (List Nat)),(u9 m T).length=T.length
 |[]=>rfl
 |[_]=>rfl
 |x::y::r=>by
  show(u9 m (y::r)).length+1=_
  rw[Cp m (y::r)]
  rfl
theorem Bj {m:Nat}:∀{T:List (List Nat)} {t:List Nat},t∈u9 m T→t∈T∨∃y∈T,t=y++[m]
 |[],_,h=>nomatch h
 |[y],t,h=>.inr ⟨y,.head _,List.mem_singleton.mp h⟩
 |x::y::r,t,h=>by
  rcases List.mem_cons.mp h with e|e
  ·exact .inl (e ▸ .head _)
  ·rcases Bj e with e|⟨z,h1,h2⟩
   ·exact .inl (.tail _ e)
   ·exact .inr ⟨z,.tail _ h1,h2⟩
theorem Mi (m:Nat):∀(T:List (List Nat)) (k:Nat),k<T.length→(pre m T).getD k []=(if k=0 then [m] else [])++T.getD k []
 |[],_,h=>by cases h
 |x::r,0,_=>rfl
 |x::r,k+1,_=>rfl
theorem zM (m:Nat):∀(T:List (List Nat)),(pre m T).length=T.length
 |[]=>rfl
 |_::_=>rfl
noncomputable def H8 (m:Nat)(items:List (List (List Nat))):Prop:=∀x∈items,x≠[]∧∀p∈x,m∉p∧47∉p
theorem BJ {ws:List (List (List Nat))}{m:Nat}(hm:m≠47)(hne:itemsOf ws≠[])(hi:H8 m (itemsOf ws)):eQ ws m=u9 m (pre m ((itemsOf ws).map (ao [m,32,m]))):=by
 rw[vM hm]
 have hno:∀t∈(itemsOf ws).map (ao [m,32,m]),47∉t:=fun t ht=>by
  refine aL (List.mem_map.mp ht) fun x hx er2=>?_;subst er2
  exact pY (by simp;exact fun e=>hm e.symm) x fun p hp=>((hi x hx).2 p hp).2
 unfold gl
 generalize hT:(itemsOf ws).map (ao [m,32,m])=T at *
 cases T with
 |nil=>exact absurd (List.map_eq_nil_iff.mp hT) hne
 |cons t r=>
  obtain⟨h1,h2⟩:=zy m (T:=([m]++t)::r) (by simp)
  have e:[m]++ao [47] (t::r)++[m]=ao [47] (u9 m (([m]++t)::r)):=by rw[h1,uX]
  rw[e,mC h2]
  ·rfl
  ·intro p hp
   have hp':∀y∈([m]++t)::r,47∉y:=fun y hy=>by
    rcases List.mem_cons.mp hy with e|e
    ·rw[e]
     intro q
     rcases List.mem_append.mp q with q|q
     ·exact hm (List.mem_singleton.mp q).symm
     ·exact hno t (.head _) q
    ·exact hno y (.tail _ e)
   rcases Bj hp with e|⟨y,hy,rfl⟩
   ·exact hp' p e
   ·intro q
    rcases List.mem_append.mp q with q|q
    ·exact hp' y hy q
    ·exact hm (List.mem_singleton.mp q).symm
theorem Hh {ws:List (List (List Nat))}{m:Nat}(hm:m≠47)(hne:itemsOf ws≠[])(hi:H8 m (itemsOf ws)):(eQ ws m).length=(itemsOf ws).length:=by
 rw[BJ hm hne hi,Cp,zM,List.length_map]
theorem j4 {ws:List (List (List Nat))}{m:Nat}(hm:m≠47)(hne:itemsOf ws≠[])(hi:H8 m (itemsOf ws))(k:Nat)(hk:k<(itemsOf ws).length):(eQ ws m).getD k []=tx m (itemsOf ws) k:=by
 rw[BJ hm hne hi,BP m _ k (by rw[zM,List.length_map];exact hk),Mi m _ k (by rw[List.length_map];exact hk),zM,List.length_map]
 unfold tx
 have:((itemsOf ws).map (ao [m,32,m])).getD k []=ao [m,32,m] ((itemsOf ws).getD k []):=by
  rw[List.getD_eq_getElem?_getD,List.getD_eq_getElem?_getD,List.getElem?_map,List.getElem?_eq_getElem hk]
  rfl
 rw[this]
theorem Kg {m:Nat}(hm:m≠46){t:List Nat}(h:m∈t):kdP t=2:=by
 unfold kdP
 rw[if_neg,if_neg]
 ·rintro (rfl|rfl)
  ·cases h
  ·exact hm (List.mem_singleton.mp h)
 ·rintro rfl
  simp at h
  exact hm h
theorem G6 {m:Nat}{x:List (List Nat)}(h:1<x.length):m∈ao [m,32,m] x:=by
 match x,h with
 |a::b::r,_=>
  show m∈a++[m,32,m]++ao [m,32,m] (b::r)
  simp
theorem Ou {m:Nat}(hm:m≠46){items:List (List (List Nat))}(hi:H8 m items)(k:Nat)(hk:k<items.length):yD items true k=kdP (tx m items k):=by
 have hg:items.getD k []∈items:=by
  rw[List.getD_eq_getElem?_getD,List.getElem?_eq_getElem hk]
  exact List.getElem_mem hk
 obtain⟨hx,_⟩:=hi _ hg
 cases hN:isName items true k with
 |true=>
  have h2:yD items true k=2:=by
   unfold yD
   rw[hN]
   simp
  rw[h2]
  refine(Kg hm ?_).symm
  unfold isName at hN
  simp only[Bool.true_and,Bool.or_eq_true,decide_eq_true_eq,beq_iff_eq] at hN
  unfold tx
  rcases hN with h|h|h
  ·exact List.mem_append_left _ (List.mem_append_right _ (G6 h))
  ·rw[if_pos h];simp
  ·rw[if_pos h];simp
 |false=>
  have hN':=hN
  unfold isName at hN'
  simp only[Bool.true_and,Bool.or_eq_false_iff,decide_eq_false_iff_not,beq_eq_false_iff_ne] at hN'
  refine aK hN' fun h1 h2 h3=>?_
  unfold tx yD
  rw[if_neg h2,if_neg h3,List.append_nil,List.nil_append,hN]
  match hxx:items.getD k [],hx,h1 with
  |[p],_,_=>
   show _=kdP p
   unfold kdP
   simp
  |a::b::r,_,h=>exact absurd (by simp) h
theorem DX {ws:List (List (List Nat))}{m:Nat}(hm:m≠47)(hm6:m≠46)(hne:itemsOf ws≠[])(hi:H8 m (itemsOf ws)):
  gH kdP (eQ ws m)=((cM (itemsOf ws) true).1,(cM (itemsOf ws) true).2.map fun k=>(eQ ws m).getD k []):=by
 have h:gH kdP (eQ ws m)=gH kdP ((List.range (eQ ws m).length).map (fun k=>(eQ ws m).getD k [])):=by rw[map_range]
 rw[h,zF,iV,Hh hm hne hi]
 rw[uY (kd:=fun k=>kdP ((eQ ws m).getD k [])) (kd':=yD (itemsOf ws) true) fun k hk=>by
  have hk':=List.mem_range.mp hk
  rw[j4 hm hne hi k hk',Ou hm6 hi k hk']]
theorem j6 {α:Type}{kd:α→Nat}:∀{l:List α} {a:α},a∈(gH kd l).2→a∈l∧kd a≠0∧kd a≠1
 |[],_,h=>nomatch h
 |b::l,a,h=>by
  have h':a∈(cF kd b (gH kd l)).2:=h
  unfold cF at h'
  have ih:a∈(gH kd l).2→a∈b::l∧kd a≠0∧kd a≠1:=fun q=>⟨.tail _ (j6 q).1,(j6 q).2⟩
  split at h'
  ·exact ih h'
  ·split at h'
   ·exact ih h'
   ·split at h'
    ·exact ih h'
    ·rcases List.mem_cons.mp h' with e|e
     ·rw[e]
      exact⟨.head _,by assumption,by assumption⟩
     ·exact ih e
theorem Jb {z:List Nat}(h:z≠[]):qM z=z:=by
 cases z with
 |nil=>exact absurd rfl h
 |cons=>rfl
theorem Ao {f:List Nat}(hf:IsFront f){m:Nat}(hm:m≠47)(r:List Nat):rootOf (f++m::r)=rootOf f:=by
 cases hf with
 |no=>exact qC hm
 |one=>exact Fw hm
 |two=>exact FJ hm
 |three=>exact Em
 |up=>exact qC (by decide)
theorem Dt {f:List Nat}(hf:IsFront f)(X:List Nat):(aQ 47 (f++X)).foldl (bf (rootOf f)) []=DG (rootOf f) ((gH kdP (aQ 47 X)).1+aO f)++(gH kdP (aQ 47 X)).2:=by
 cases hf with
 |no=>
  have c:aO []=0:=by decide +kernel
  rw[c]
  exact jC _ _
 |one=>
  show(aQ 47 (47::X)).foldl _ _=_
  rw[gR,jE]
  exact jC _ _
 |two=>
  show(aQ 47 (47::47::X)).foldl _ _=_
  rw[gR,gR,jE,jE]
  exact jC _ _
 |three=>
  show(aQ 47 (47::47::47::X)).foldl _ _=_
  rw[gR,gR,gR,jE,jE,jE]
  exact jC _ _
 |up=>
  have e:aQ 47 ([46,46,47]++X)=[46,46]::aQ 47 X:=tQ (a:=[46,46]) X (by decide)
  rw[e,jC]
  have c:aO [46,46,47]=1:=by decide +kernel
  rw[c]
  rfl
theorem Hy {ws:List (List (List Nat))}{m:Nat}{f:List Nat}(hf:IsFront f)(hm:m≠47)(hm6:m≠46)(hne:itemsOf ws≠[])(hi:H8 m (itemsOf ws)):eV (f++([m]++gl m (itemsOf ws)++[m]))=cU ws f m:=by
 rw[tZ,uK]
 have e:f++([m]++gl m (itemsOf ws)++[m])=f++m::(gl m (itemsOf ws)++[m]):=by simp
 have hr:rootOf (f++([m]++gl m (itemsOf ws)++[m]))=rootOf f:=by rw[e,Ao hf hm]
 rw[hr,Dt hf,←vM hm,DX hm hm6 hne hi]
 have hz:rootOf f++ao [47] (DG (rootOf f) ((cM (itemsOf ws) true).1+aO f)++(cM (itemsOf ws) true).2.map fun k=>(eQ ws m).getD k [])=cU ws f m:=rfl
 rw[hz]
 refine Jb ?_
 rw[←hz]
 obtain⟨k,hk⟩:=List.exists_mem_of_ne_nil _ (Ex hne)
 have hkk:=hk
 rw[iV] at hkk
 refine aK (j6 hkk) fun h1 h2 h3=>?_
 have h1':=List.mem_range.mp h1
 have h4:=Ou hm6 hi k h1'
 rw[←j4 hm hne hi k h1'] at h4
 have hxne:(eQ ws m).getD k []≠[]:=by
  intro q
  rw[q] at h4
  exact h3 h4
 intro q
 exact yj (sep:=[47]) (List.mem_append_right _ (List.mem_map.mpr ⟨k,hk,rfl⟩)) hxne (List.append_eq_nil_iff.mp q).2
theorem Kr {α:Type}{kd:α→Nat}{a:α}{l r:List α}(ha:a∉l)(h:(gH kd (a::l)).2=a::r):(gH kd (a::l)).1=0:=by
 have e:gH kd (a::l)=cF kd a (gH kd l):=rfl
 rw[e] at h ⊢
 have hno:(gH kd l).2≠a::r:=fun q=>ha (j6 (kd:=kd) (by rw[q];exact .head _)).1
 unfold cF at h ⊢
 split at h
 ·exact absurd h hno
 ·split at h
  ·exact absurd h hno
  ·split at h
   ·exact absurd h hno
   ·rename_i h1 h2 h3
    rw[if_neg h1,if_neg h2,if_neg h3]
    show(gH kd l).1=0
    lia
theorem Dn {α:Type}{kd:α→Nat}{a:α}{l:List α}(ha:a∉l)(h:∀r,(gH kd (a::l)).2≠a::r):a∉(gH kd (a::l)).2:=by
 have e:gH kd (a::l)=cF kd a (gH kd l):=rfl
 rw[e] at h ⊢
 have hno:a∉(gH kd l).2:=fun q=>ha (j6 q).1
 unfold cF at h ⊢
 split
 ·exact hno
 ·split
  ·exact hno
  ·split
   ·exact hno
   ·rename_i h1 h2 h3
    rw[if_neg h1,if_neg h2,if_neg h3] at h
    exact absurd rfl (h _)
theorem Er {α:Type}{kd:α→Nat}(S:List α):∀(l:List α) (d:Nat) (K:List α),l.foldr (cF kd) (d,K++S)=((l.foldr (cF kd) (d,K)).1,(l.foldr (cF kd) (d,K)).2++S)
 |[],_,_=>rfl
 |a::l,d,K=>by
  show cF kd a (l.foldr (cF kd) (d,K++S))=_
  rw[Er S l d K]
  show _=((cF kd a (l.foldr (cF kd) (d,K))).1,(cF kd a (l.foldr (cF kd) (d,K))).2++S)
  unfold cF
  dsimp only
  split
  ·rfl
  ·split
   ·rfl
   ·split<;>rfl
theorem Ji {α:Type}{kd:α→Nat}(l:List α)(a:α)(h:kd a=2):(gH kd (l++[a])).2=(gH kd l).2++[a]:=by
 unfold gH
 rw[List.foldr_append]
 have e:[a].foldr (cF kd) (0,[])=(0,[]++[a]):=by
  show cF kd a (0,[])=_
  unfold cF
  rw[h,if_neg (by decide),if_neg (by decide),if_neg (Nat.lt_irrefl 0)]
  rfl
 rw[e,Er]
theorem N6 (items:List (List (List Nat)))(n:Nat)(h:items.length=n+1):yD items true n=2:=by
 have hN:isName items true n=true:=by
  unfold isName
  rw[h]
  simp
 unfold yD
 rw[hN]
 simp
theorem jz (items:List (List (List Nat)))(n:Nat)(h:items.length=n+1):∃X:List Nat,(cM items true).2=X++[n]∧∀k∈X,k<n:=by
 rw[iV,h,List.range_succ,Ji _ _ (N6 items n h)]
 exact⟨_,rfl,fun k hk=>List.mem_range.mp (j6 hk).1⟩
theorem GX (items:List (List (List Nat)))(h:items≠[]):((∃r,(cM items true).2=0::r)∧(cM items true).1=0∨0∉(cM items true).2∧∀r,(cM items true).2≠0::r):=by
 obtain⟨n,hn⟩:∃n,items.length=n+1:=⟨items.length-1,by have:=List.length_pos_iff.mpr h;lia⟩
 rw[iV,hn,List.range_succ_eq_map]
 have h0:(0:Nat)∉(List.range n).map Nat.succ:=by simp
 by_cases q:∃r,(gH (yD items true) (0::(List.range n).map Nat.succ)).2=0::r
 ·obtain⟨r,hr⟩:=q
  exact .inl ⟨⟨r,hr⟩,Kr h0 hr⟩
 ·have q':∀r,(gH (yD items true) (0::(List.range n).map Nat.succ)).2≠0::r:=fun r hr=>q ⟨r,hr⟩
  exact .inr ⟨Dn h0 q',q'⟩
theorem Cu (items:List (List (List Nat)))(r:List Nat)(h:(cM items true).2=0::r):0∉r:=by
 rw[iV] at h
 cases hn:items.length with
 |zero=>
  rw[hn] at h
  cases h
 |succ n=>
  rw[hn,List.range_succ_eq_map] at h
  have h0:(0:Nat)∉(List.range n).map Nat.succ:=by simp
  have hno:0∉(gH (yD items true) ((List.range n).map Nat.succ)).2:=fun q=>h0 (j6 q).1
  have e:gH (yD items true) (0::(List.range n).map Nat.succ)=cF (yD items true) 0 (gH (yD items true) ((List.range n).map Nat.succ)):=rfl
  rw[e] at h
  have hc:(gH (yD items true) ((List.range n).map Nat.succ)).2≠0::r:=fun q=>hno (by rw[q];exact .head _)
  unfold cF at h
  split at h
  ·exact absurd h hc
  ·split at h
   ·exact absurd h hc
   ·split at h
    ·exact absurd h hc
    ·injection h with _ h
     rw[←h]
     exact hno
noncomputable def jl (m:Nat)(items:List (List (List Nat)))(k:Nat):List Nat:=ao [m,32,m] (items.getD k [])
theorem HR (m:Nat)(items:List (List (List Nat)))(n:Nat)(hn:items.length=n+1)(r:List Nat)(h:(cM items true).2=0::r):ao [47] ((0::r).map (tx m items))=[m]++ao [47] ((0::r).map (jl m items))++[m]:=by
 have h0:=Cu items r h
 refine aL (jz items n hn) fun X hX hlt=>?_
 rw[h] at hX
 have e1:(0::r).map (tx m items)=([m]++(jl m items 0++if 0+1=n+1 then [m] else []))::r.map (fun k=>jl m items k++if k+1=n+1 then [m] else []):=by
  rw[List.map_cons]
  congr 1
  ·unfold tx jl
   rw[if_pos rfl,hn,List.append_assoc]
  ·refine List.map_congr_left fun k hk=>?_
   have hk0:k≠0:=fun e=>h0 (e▸hk)
   unfold tx jl
   rw[if_neg hk0,hn,List.nil_append]
 have e2:(jl m items 0++if 0+1=n+1 then [m] else [])::r.map (fun k=>jl m items k++if k+1=n+1 then [m] else [])=X.map (jl m items)++[jl m items n++[m]]:=by
  have:(jl m items 0++if 0+1=n+1 then [m] else [])::r.map (fun k=>jl m items k++if k+1=n+1 then [m] else [])=(0::r).map (fun k=>jl m items k++if k+1=n+1 then [m] else []):=rfl
  rw[this,hX,List.map_append]
  congr 1
  ·refine List.map_congr_left fun k hk=>?_
   have:=hlt k hk
   rw[if_neg (by lia),List.append_nil]
  ·show [jl m items n++if n+1=n+1 then [m] else []]=_
   rw[if_pos rfl]
 rw[e1,uX,e2,iC,hX,List.map_append]
 simp
noncomputable def Fe (m:Nat)(done:List (List (List Nat)))(t:List Nat):List Nat:=ao [32] (done.map (fun x=>qu m (ao [47] x))++[[m]++t])
noncomputable def Qy (cur:List (List Nat)):List Nat:=if cur=[] then [] else ao [47] cur++[47]
theorem FW (m:Nat)(done:List (List (List Nat)))(t u:List Nat):Fe m done (t++u)=Fe m done t++u:=by
 unfold Fe
 rw[←List.append_assoc,iC]
theorem CW (cur:List (List Nat))(h:List Nat):ao [47] (cur++[h])=Qy cur++h:=by
 unfold Qy
 by_cases hc:cur=[]
 ·rw[if_pos hc,hc];rfl
 ·rw[if_neg hc,oX hc (by simp)];rfl
theorem zr (m:Nat):∀(r:List (List Nat)) (A:List (List Nat)) (y:List Nat),r≠[]→ao [32] (A++[y++[m]]++(r.dropLast.map (qu m)++[[m]++r.getLast?.getD []]))=ao [32] (A++[y++([m,32,m]++ao [m,32,m] r)])
 |[],_,_,h=>absurd rfl h
 |[b],A,y,_=>by
  show ao [32] (A++[y++[m]]++[[m]++b])=ao [32] (A++[y++([m,32,m]++b)])
  rw[oX (by simp) (by simp),iC,iC]
  simp[ao]
 |b::c::r,A,y,_=>by
  have ih:=zr m (c::r) (A++[y++[m]]) ([m]++b) (by simp)
  have e:(b::c::r).dropLast.map (qu m)++[[m]++(b::c::r).getLast?.getD []]=[([m]++b)++[m]]++((c::r).dropLast.map (qu m)++[[m]++(c::r).getLast?.getD []]):=rfl
  rw[e,←List.append_assoc,ih,oX (by simp) (by simp),iC,iC,eH (T:=c::r) (by simp)]
  simp[ao]
theorem CZ (m:Nat)(items:List (List (List Nat)))(k:Nat)(hk:items.getD k []≠[])(done:List (List (List Nat)))(cur:List (List Nat)):
  Fe m (cu items (done,cur) k).1 (ao [47] (cu items (done,cur) k).2)=Fe m done (Qy cur++jl m items k)∧(cu items (done,cur) k).2≠[]:=by
 unfold cu jl
 match items.getD k [],hk with
 |h::r,_=>
  dsimp only
  by_cases hr:r=[]
  ·rw[if_pos hr,hr]
   refine⟨?_,by simp⟩
   show Fe m done (ao [47] (cur++[h]))=_
   rw[CW]
   rfl
  ·rw[if_neg hr]
   refine⟨?_,by simp⟩
   show Fe m (done++[cur++[h]]++r.dropLast.map (fun p=>[p])) (r.getLast?.getD [])=_
   unfold Fe
   rw[List.map_append,List.map_append,List.map_map]
   have e1:r.dropLast.map ((fun x=>qu m (ao [47] x)) ∘ fun p=>[p])=r.dropLast.map (qu m):=rfl
   rw[e1,List.append_assoc]
   have e2:[cur++[h]].map (fun x=>qu m (ao [47] x))=[([m]++(Qy cur++h))++[m]]:=by
    show [[m]++ao [47] (cur++[h])++[m]]=_
    rw[CW]
   rw[e2,zr m r _ _ hr,eH hr]
   simp
theorem Cv (m:Nat)(items:List (List (List Nat))):∀(ks:List Nat),ks≠[]→(∀k∈ks,items.getD k []≠[])→∀(done:List (List (List Nat))) (cur:List (List Nat)),
  Fe m (ks.foldl (cu items) (done,cur)).1 (ao [47] (ks.foldl (cu items) (done,cur)).2)=Fe m done (Qy cur++ao [47] (ks.map (jl m items)))
 |[],h,_,_,_=>absurd rfl h
 |[k],_,hk,done,cur=>(CZ m items k (hk k (.head _)) done cur).1
 |k::k2::ks,_,hk,done,cur=>by
  obtain⟨h1,h2⟩:=CZ m items k (hk k (.head _)) done cur
  have ih:=Cv m items (k2::ks) (by simp) (fun x hx=>hk x (.tail _ hx)) (cu items (done,cur) k).1 (cu items (done,cur) k).2
  show Fe m ((k2::ks).foldl (cu items) (cu items (done,cur) k)).1 _=_
  have e:((cu items (done,cur) k).1,(cu items (done,cur) k).2)=cu items (done,cur) k:=rfl
  rw[e] at ih
  show Fe m ((k2::ks).foldl (cu items) (cu items (done,cur) k)).1 (ao [47] ((k2::ks).foldl (cu items) (cu items (done,cur) k)).2)=_
  rw[ih]
  have e2:Qy (cu items (done,cur) k).2=ao [47] (cu items (done,cur) k).2++[47]:=by unfold Qy;rw[if_neg h2]
  have e3:ao [47] ((k::k2::ks).map (jl m items))=jl m items k++[47]++ao [47] ((k2::ks).map (jl m items)):=by rw[List.map_cons,eH (T:=(k2::ks).map (jl m items)) (by simp)]
  rw[e2,List.append_assoc,FW,h1,←FW,e3]
  simp
theorem Ha (m:Nat)(row:List (List (List Nat))):(aR row []).map (qu m)=row.map fun x=>qu m (ao [47] x):=by
 cases row with
 |nil=>rfl
 |cons a r=>
  show((([]:List Nat)++ao [47] a)::r.map (ao [47])).map (qu m)=_
  rw[List.map_cons,List.map_map]
  rfl
theorem Iz (m:Nat)(items:List (List (List Nat)))(ks:List Nat)(h:ks≠[])(hk:∀k∈ks,items.getD k []≠[]):ao [32] ((aR (cY items ([],[]) ks) []).map (qu m))=[m]++ao [47] (ks.map (jl m items))++[m]:=by
 have h1:=Cv m items ks h hk [] []
 rw[Ha]
 unfold cY
 rw[List.map_append]
 have e:∀(done:List (List (List Nat))) (cur:List (List Nat)),ao [32] (done.map (fun x=>qu m (ao [47] x))++[cur].map (fun x=>qu m (ao [47] x)))=Fe m done (ao [47] cur)++[m]:=fun done cur=>by
  unfold Fe
  rw[←iC]
  rfl
 rw[e,h1]
 show [m]++([]++ao [47] (ks.map (jl m items)))++[m]=_
 rfl
noncomputable def pU (f:List Nat):List Nat:=if rootOf f=[] then f else rootOf f
theorem Cj {f:List Nat}(hf:IsFront f)(T:List (List Nat))(hT:T≠[]):rootOf f++ao [47] ((if rootOf f=[] then List.replicate (0+aO f) [46,46] else [])++T)=pU f++ao [47] T:=by
 cases hf with
 |no=>
  have c:aO []=0:=by decide +kernel
  rw[c]
  rfl
 |one=>rfl
 |two=>rfl
 |three=>rfl
 |up=>
  have c:aO [46,46,47]=1:=by decide +kernel
  rw[c]
  show ao [47] ([46,46]::T)=[46,46,47]++ao [47] T
  rw[eH hT]
  rfl
theorem Eb {ws:List (List (List Nat))}{m:Nat}{f:List Nat}(hf:IsFront f)(hm:m≠47)(hne:itemsOf ws≠[])(hi:H8 m (itemsOf ws))(r:List Nat)(h:(cM (itemsOf ws) true).2=0::r)(hd:(cM (itemsOf ws) true).1=0):
  cU ws f m=pU f++ao [32] ((aR (cY (itemsOf ws) ([],[]) (0::r)) []).map (qu m)):=by
 obtain⟨n,hn⟩:∃n,(itemsOf ws).length=n+1:=⟨(itemsOf ws).length-1,by have:=List.length_pos_iff.mpr hne;lia⟩
 have hlt:∀k∈0::r,k<(itemsOf ws).length:=fun k hk=>wA (mk:=true) k (by rw[h];exact hk)
 have hg:∀k∈0::r,(itemsOf ws).getD k []≠[]:=fun k hk=>by
  have hkl:=hlt k hk
  rw[List.getD_eq_getElem?_getD,List.getElem?_eq_getElem hkl]
  exact(hi _ (List.getElem_mem hkl)).1
 unfold cU
 rw[h,hd,Cj hf _ (by simp)]
 congr 1
 rw[Iz m (itemsOf ws) (0::r) (by simp) hg,←HR m (itemsOf ws) n hn r h]
 refine congrArg (ao [47]) (List.map_congr_left fun k hk=>?_)
 exact j4 hm hne hi k (hlt k hk)
noncomputable def tW (m:Nat):List (List Nat)→Nat
 |[]=>0
 |t::r=>t.count m+tW m r
theorem yg (m:Nat):∀A B:List (List Nat),tW m (A++B)=tW m A+tW m B
 |[],B=>by show tW m B=0+_;lia
 |a::A,B=>by
  show a.count m+tW m (A++B)=a.count m+tW m A+tW m B
  rw[yg m A B];lia
theorem tD {m:Nat}{sep:List Nat}(h:sep.count m%2=0):∀T:List (List Nat),(ao sep T).count m%2=tW m T%2
 |[]=>rfl
 |[x]=>rfl
 |x::y::r=>by
  have ih:=tD h (y::r)
  rw[eH (T:=y::r) (by simp),List.count_append,List.count_append]
  show _=(x.count m+tW m (y::r))%2
  lia
theorem rY {m:Nat}:∀{T:List (List Nat)},(∀t∈T,t.count m%2=0)→tW m T%2=0
 |[],_=>rfl
 |t::r,h=>by
  have h1:=h t (.head _)
  have h2:=rY (T:=r) fun x hx=>h x (.tail _ hx)
  show(t.count m+tW m r)%2=0
  lia
theorem Ef {m:Nat}(hm:m≠32){items:List (List (List Nat))}(hi:H8 m items){k:Nat}(hk:k<items.length):(jl m items k).count m%2=0:=by
 unfold jl
 have hs:([m,32,m]:List Nat).count m%2=0:=by
  rw[List.count_cons,List.count_cons,List.count_cons]
  simp[Ne.symm hm]
 rw[tD hs]
 refine rY fun t ht=>?_
 have hg:items.getD k []∈items:=by
  rw[List.getD_eq_getElem?_getD,List.getElem?_eq_getElem hk]
  exact List.getElem_mem hk
 rw[List.count_eq_zero.mpr ((hi _ hg).2 t ht).1]
theorem iZ {ws:List (List (List Nat))}{m:Nat}{f:List Nat}(hf:IsFront f)(hm:m≠47)(hm6:m≠46)(hm2:m≠32)(hne:itemsOf ws≠[])(hi:H8 m (itemsOf ws))(h0:0∉(cM (itemsOf ws) true).2):(cU ws f m).count m%2=1:=by
 obtain⟨n,hn⟩:∃n,(itemsOf ws).length=n+1:=⟨(itemsOf ws).length-1,by have:=List.length_pos_iff.mpr hne;lia⟩
 refine aL (jz (itemsOf ws) n hn) fun X hX hlt=>?_
 unfold cU
 have hr:(rootOf f).count m=0:=by
  refine List.count_eq_zero.mpr ?_
  cases hf<;>simp[rootOf,Bc,hm]
 have hs:([47]:List Nat).count m%2=0:=by
  rw[List.count_cons]
  simp[Ne.symm hm]
 rw[List.count_append,hr,Nat.zero_add,tD hs,yg,hX,List.map_append,yg]
 have e1:tW m (if rootOf f=[] then List.replicate ((cM (itemsOf ws) true).1+aO f) [46,46] else [])%2=0:=by
  split
  ·refine rY fun t ht=>?_
   rw[(List.mem_replicate.mp ht).2,List.count_eq_zero.mpr (by simp[hm6])]
  ·rfl
 have e2:tW m (X.map fun k=>(eQ ws m).getD k [])%2=0:=by
  refine rY fun t ht=>?_
  refine aL (List.mem_map.mp ht) fun k hk er3=>?_;subst er3
  have hkn:=hlt k hk
  have hk0:k≠0:=fun e=>h0 (by rw[hX];exact List.mem_append_left _ (e▸hk))
  rw[j4 hm hne hi k (by lia)]
  unfold tx
  rw[if_neg hk0,if_neg (by lia),List.append_nil,List.nil_append]
  exact Ef hm2 hi (by lia)
 have hn0:n≠0:=fun e=>h0 (by rw[hX];exact List.mem_append_right _ (by rw[e];exact .head _))
 have e3:tW m ([n].map fun k=>(eQ ws m).getD k [])%2=1:=by
  show((eQ ws m).getD n []).count m%2=1
  rw[j4 hm hne hi n (by lia)]
  unfold tx
  rw[if_neg hn0,if_pos hn.symm,List.nil_append,List.count_append]
  have:=Ef hm2 hi (k:=n) (by lia)
  unfold jl at this
  have e:([m]:List Nat).count m=1:=by simp
  lia
 lia
noncomputable def Kv (m c:Nat):Prop:=c=m∨(gG c=false∧c≠92)
theorem Kv.esc {m c:Nat}(hm:gG m=true)(h:Kv m c):c≠92:=by
 rcases h with rfl|h
 ·rintro rfl;exact absurd hm (by decide)
 ·exact h.2
theorem Kv.qt {m c:Nat}(h:Kv m c)(hq:gG c=true):c=m:=by
 rcases h with h|h
 ·exact h
 ·rw[h.1] at hq;cases hq
theorem rB {c:Nat}{sep:List Nat}:∀{T:List (List Nat)},c∈ao sep T→c∈sep∨∃t∈T,c∈t
 |[],h=>nomatch h
 |[x],h=>.inr ⟨x,.head _,h⟩
 |x::y::r,h=>by
  rw[eH (T:=y::r) (by simp)] at h
  rcases List.mem_append.mp h with h|h
  ·rcases List.mem_append.mp h with h|h
   ·exact .inr ⟨x,.head _,h⟩
   ·exact .inl h
  ·rcases rB h with h|⟨t,h1,h2⟩
   ·exact .inl h
   ·exact .inr ⟨t,.tail _ h1,h2⟩
noncomputable def qw (p:List Nat):Prop:=p.length≤3∧47∉p∧∀c∈p,gG c=false∧c≠92
theorem Ly:∀p∈menu,qw p:=by
 unfold qw menu
 decide
theorem GP (x:Int):qw (bM x):=by
 unfold bM
 rw[List.getD_eq_getElem?_getD]
 cases h:menu[(x.fmod 8).toNat]? with
 |none=>exact⟨Nat.zero_le _,(by simp),fun c hc=>nomatch hc⟩
 |some p=>exact Ly p (List.mem_of_getElem? h)
noncomputable def qp:List (List (List Nat))→Nat
 |[]=>0
 |x::r=>x.length+qp r
theorem xO:∀A B:List (List (List Nat)),qp (A++B)=qp A+qp B
 |[],B=>by show qp B=0+_;lia
 |a::A,B=>by
  show a.length+qp (A++B)=a.length+qp A+qp B
  rw[xO A B];lia
theorem jD:∀(xs:List Int) (s:List (List (List Nat))×List (List Nat)) (n:Nat),qp s.1+s.1.length+s.2.length≤n→(∀x∈s.1,∀p∈x,qw p)→(∀p∈s.2,qw p)→
  qp (xs.foldl bO s).1+(xs.foldl bO s).1.length+(xs.foldl bO s).2.length≤n+xs.length∧(∀x∈(xs.foldl bO s).1,∀p∈x,qw p)∧(∀p∈(xs.foldl bO s).2,qw p)
 |[],s,n,h,h1,h2=>⟨h,h1,h2⟩
 |x::xs,s,n,h,h1,h2=>by
  have key:qp (bO s x).1+(bO s x).1.length+(bO s x).2.length≤n+1∧(∀y∈(bO s x).1,∀p∈y,qw p)∧∀p∈(bO s x).2,qw p:=by
   unfold bO
   split
   ·refine⟨?_,fun y hy=>?_,fun p hp=>nomatch hp⟩
    ·show qp (s.1++[s.2])+(s.1++[s.2]).length+0≤_
     rw[xO,List.length_append]
     show qp s.1+(s.2.length+0)+(s.1.length+1)+0≤_
     lia
    ·rcases List.mem_append.mp hy with q|q
     ·exact h1 y q
     ·rw[List.mem_singleton.mp q];exact h2
   ·refine⟨?_,h1,fun p hp=>?_⟩
    ·show qp s.1+s.1.length+(s.2++[bM x]).length≤_
     rw[List.length_append]
     show qp s.1+s.1.length+(s.2.length+1)≤_
     lia
    ·rcases List.mem_append.mp hp with q|q
     ·exact h2 p q
     ·rw[List.mem_singleton.mp q];exact GP x
  refine aK (jD xs (bO s x) (n+1) key.1 key.2.1 key.2.2) fun g1 g2 g3=>?_
  exact⟨by rw[List.length_cons];show _≤n+(xs.length+1);have:(List.foldl bO (bO s x) xs)=(List.foldl bO s (x::xs)):=rfl;rw[this] at g1;lia,g2,g3⟩
theorem Bt:∀A:List (List (List Nat)),((A.map fun t=>if t=[] then [[]] else t).map List.length).sum≤qp A+A.length
 |[]=>Nat.le_refl _
 |t::A=>by
  have ih:=Bt A
  rw[List.map_cons,List.map_cons,List.sum_cons]
  show _≤t.length+qp A+(A.length+1)
  have:(if t=[] then [[]] else t:List (List Nat)).length≤t.length+1:=by
   split
   ·show 1≤_;lia
   ·lia
  lia
theorem fP (xs:List Int):(∀x∈wordsOf xs,x≠[]∧∀p∈x,qw p)∧((wordsOf xs).map List.length).sum≤15∧wordsOf xs≠[]:=by
 have hl:(xs.take 14).length≤14:=List.length_take_le _ _
 refine aK (jD (xs.take 14) ([],[]) 0 (Nat.le_refl _) (fun x hx=>nomatch hx) (fun p hp=>nomatch hp)) fun g1 g2 g3=>?_
 have hraw:∀x∈iJ ([],[]) (xs.take 14),∀p∈x,qw p:=fun x hx=>by
  unfold iJ at hx
  rcases List.mem_append.mp hx with q|q
  ·exact g2 x q
  ·rw[List.mem_singleton.mp q];exact g3
 refine⟨fun x hx=>?_,?_,?_⟩
 ·unfold wordsOf at hx
  refine aL (List.mem_map.mp hx) fun t ht er4=>?_;subst er4
  split
  ·refine⟨by simp,fun p hp=>?_⟩
   rw[List.mem_singleton.mp hp]
   exact⟨Nat.zero_le _,(by simp),fun c hc=>nomatch hc⟩
  ·exact⟨by assumption,hraw t ht⟩
 ·unfold wordsOf
  refine Nat.le_trans (Bt _) ?_
  unfold iJ
  rw[xO,List.length_append]
  show qp _+(_+0)+(_+1)≤_
  lia
 ·unfold wordsOf iJ
  simp
theorem Bs (xs:List Int):WsOk (wordsOf xs):=by
 refine aK (fP xs) fun h1 h2 h3=>?_
 exact⟨h3,fun x hx=>⟨(h1 x hx).1,fun p hp=>⟨((h1 x hx).2 p hp).1,((h1 x hx).2 p hp).2.1⟩⟩,by lia⟩
theorem Kf {ws:List (List (List Nat))}(h:∀x∈ws,x≠[]∧∀p∈x,qw p)(hne:ws≠[]):∀x∈itemsOf ws,x≠[]∧∀p∈x,qw p:=by
 cases ws with
 |nil=>exact absurd rfl hne
 |cons w0 r=>
  have hw0:=h w0 (.head _)
  obtain⟨_,_,g3⟩:=lR r (w0.map fun p=>[p]) 1 qw (by intro e;exact hw0.1 (List.map_eq_nil_iff.mp e)) (fun x hx=>by
   refine aL (List.mem_map.mp hx) fun p hp er5=>?_;subst er5
   exact⟨by simp,Nat.le_refl _,fun q hq=>by rw[List.mem_singleton] at hq;subst hq;exact hw0.2 q hp⟩) (Nat.le_refl _) fun x hx=>h x (.tail _ hx)
  exact fun x hx=>⟨(g3 x hx).1,(g3 x hx).2.2⟩
theorem GJ {items:List (List (List Nat))}{m:Nat}(hm:gG m=true)(h:∀x∈items,x≠[]∧∀p∈x,qw p):H8 m items:=fun x hx=>⟨(h x hx).1,fun p hp=>⟨fun q=>Bool.noConfusion ((((h x hx).2 p hp).2.2 m q).1.symm.trans hm),((h x hx).2 p hp).2.1⟩⟩
theorem FQ {m:Nat}:∀c∈([m,32,m]:List Nat),Kv m c:=fun c hc=>by
 simp only[List.mem_cons,List.not_mem_nil,or_false] at hc
 rcases hc with rfl|rfl|rfl
 ·exact .inl rfl
 ·exact .inr (by decide)
 ·exact .inl rfl
theorem Hl {f:List Nat}(hf:IsFront f){m:Nat}:∀c∈f,Kv m c:=fun c hc=>by
 have:c=47∨c=46:=by
  cases hf<;>simp at hc<;>lia
 rcases this with rfl|rfl<;>exact .inr (by decide)
theorem Qn {m:Nat}{items:List (List (List Nat))}(h:∀x∈items,x≠[]∧∀p∈x,qw p):∀c∈gl m items,Kv m c:=fun c hc=>by
 unfold gl at hc
 rcases rB hc with q|⟨t,ht,q⟩
 ·rw[List.mem_singleton.mp q];exact .inr (by decide)
 ·refine aL (List.mem_map.mp ht) fun x hx er6=>?_;subst er6
  rcases rB q with q|⟨p,hp,q⟩
  ·exact FQ c q
  ·exact .inr (((h x hx).2 p hp).2.2 c q)
theorem RM {m:Nat}{items:List (List (List Nat))}(h:∀x∈items,x≠[]∧∀p∈x,qw p)(k:Nat):∀c∈tx m items k,Kv m c:=fun c hc=>by
 unfold tx at hc
 have hm:∀{b:Prop} [Decidable b],c∈(if b then [m] else []:List Nat)→Kv m c:=fun {b} _ q=>by
  split at q
  ·exact .inl (List.mem_singleton.mp q)
  ·cases q
 rcases List.mem_append.mp hc with q|q
 ·rcases List.mem_append.mp q with q|q
  ·exact hm q
  ·rcases rB q with q|⟨p,hp,q⟩
   ·exact FQ c q
   ·have hg:items.getD k []=[]∨items.getD k []∈items:=by
     rw[List.getD_eq_getElem?_getD]
     cases hx:items[k]? with
     |none=>exact .inl rfl
     |some y=>exact .inr (List.mem_of_getElem? hx)
    rcases hg with e|e
    ·rw[e] at hp;cases hp
    ·exact .inr (((h _ e).2 p hp).2.2 c q)
 ·exact hm q
theorem HQ {ws:List (List (List Nat))}{m:Nat}{f:List Nat}(hf:IsFront f)(hm:m≠47)(hne:itemsOf ws≠[])(hi:H8 m (itemsOf ws))(h:∀x∈itemsOf ws,x≠[]∧∀p∈x,qw p):∀c∈cU ws f m,Kv m c:=fun c hc=>by
 unfold cU at hc
 rcases List.mem_append.mp hc with q|q
 ·have:c=47:=by
   cases hf<;>simp[rootOf,Bc] at q<;>exact q
  rw[this];exact .inr (by decide)
 ·rcases rB q with q|⟨t,ht,q⟩
  ·rw[List.mem_singleton.mp q];exact .inr (by decide)
  ·rcases List.mem_append.mp ht with ht|ht
   ·split at ht
    ·rw[(List.mem_replicate.mp ht).2] at q
     simp at q
     rw[q];exact .inr (by decide)
    ·cases ht
   ·refine aL (List.mem_map.mp ht) fun k hk er0=>?_;subst er0
    rw[j4 hm hne hi k (wA (mk:=true) k hk)] at q
    exact RM h k c q
section
open Builtin Builtin.Str Builtin.Int
open Sem (wp)
section
variable {w:World} {J:Array GenState} {dr:Drawn} {os:Osw} {F:bw} {led led':Led} {Z V:Nat}
theorem wX {fr:Option (List Env)}{lim n h:Nat}{c:Code}{ro:Led}{ant:Ant}{R:Res}(hR:bh w.params fr lim n h c led Z V ro ant=R)(hok:K4 R=true)(hob:oE (cH R)=rights (cH R))(hkt:∀a o,(ktop w.params).get a=some o→F a o)(hro:∀p∈ro,F p.1 p.2)(hant:aA aH w J dr os F ant){A:Around}(hA:A.depth≤lim)(hU:A.units≤2*lim)(hh:A.handled=none)(hfr:∀l,fr=some l→A.frames=some l){R₀:Result→Shared→Prop}(K:∀s',Rel (aj F (rF R)) J dr os (fH R) (dw R) (bk R) s'→d9 aH w A R₀ (qg R) (eF R) (Jv R) s'){s:Shared}(r:Rel F J dr os led Z V s):
  codeAny (model aH w) A c R₀ s:=by
 cases R with
 |bad _ _=>cases hok
 |ok σ=>exact lU hkt hro hant hR hob hA hU hh hfr (fun s' r'=>K s' r') r
theorem wj {t:Sem Fin}{c:Code}(h:vh t=some c):∃g l,t=.call c none g l (Ox t):=by
 cases t with
 |call c' hd g l k=>
  cases hd with
  |none=>
   injection h with h
   subst h
   exact⟨g,l,rfl⟩
  |some e=>cases h
 |_=>cases h
theorem Rel.toW {o:OsState}{p:Addr×Obj}{s:Shared}(r:Rel F J dr ⟨o,[]⟩ (p::led) Z V s):Rel F J dr ⟨o,[p]⟩ led Z V s:=by
 refine⟨r.size,r.keep,fun q hq=>r.own q (.tail _ hq),fun q hq=>r.apart q (.tail _ hq),(List.nodup_cons.mp r.nd).2,r.rest,fun q hq=>?_⟩
 rw[List.mem_singleton.mp hq]
 exact⟨⟨p.2.slots,r.own p (.head _)⟩,r.apart p (.head _),(List.nodup_cons.mp r.nd).1⟩
theorem Rel.fromW {o:OsState}{p:Addr×Obj}{s:Shared}(r:Rel F J dr ⟨o,[p]⟩ led Z V s):∃sl,Rel F J dr ⟨o,[]⟩ ((p.1,{p.2 with slots:=sl})::led) Z V s:=by
 refine aK (r.wf p (.head _)) fun ep1 h2 h3=>?_;obtain⟨sl,h1⟩:=ep1
 refine⟨sl,r.size,r.keep,fun q hq=>?_,fun q hq=>?_,List.nodup_cons.mpr ⟨h3,r.nd⟩,r.rest,fun q hq=>nomatch hq⟩
 ·rcases List.mem_cons.mp hq with e|e
  ·subst e;exact h1
  ·exact r.own q e
 ·rcases List.mem_cons.mp hq with e|e
  ·subst e;exact h2
  ·exact r.apart q e
theorem tell {o:OsState}{fa:Nat}{frm:Obj}{rest new:Led}{cc c:Code}{v:Value}{t:Sem Fin}{h:Value→Sem Unit}{env:Env}{b:List Stmt}{Z' V':Nat}{s:Shared}{A:Around}{R₀:Result→Shared→Prop}(hF:∀b o,KF w.params b o→F b o)(htk:vh t=some cc)(hc:c=.func b env)(hT:∀Fz:bw,(∀b o,KF w.params b o→Fz b o)→Oc aH w J dr ⟨o,[(fa,frm)]⟩ [env] 400 cc Fz [] Z V (.ok (.ret v)) Fz new Z' V')(hA:A.depth≤310)(hU:A.units≤620)(hh:A.handled=none)(hfr:A.frames=some [])(r:Rel F J dr ⟨o,[]⟩ ((fa,frm)::rest) Z V s)(K:∀s' sl,Rel F J dr ⟨o,[]⟩ ((fa,{frm with slots:=sl})::(rest++new)) Z' V' s'→d9 aH w A R₀ c (.lv h .base) (Ox t (.ok (.ret v))) s'):d9 aH w A R₀ c (.lv h .base) t s:=by
 refine aJ (wj htk) fun g l ht=>?_
 generalize hk:Ox t=k at *
 rw[ht]
 refine y_call _ _ _ _ _ _ _ _ _ none _ _ _ (by intro e;cases e) ?_
 have hw:wt c=5:=by rw[hc];rfl
 have d1:(lG A (.ret c none k .base)).depth≤310+(wt c+0):=pq (A₀:=A) hA (.ret c none k .base)
 have d2:(lG A (.ret c none k .base)).units≤2*(310+(wt c+0)):=lV (A₀:=A) hU (.ret c none k .base)
 have d3:(lG A (.ret c none k .base)).handled=none:=lw (A₀:=A) hh (.ret c none k .base)
 have d4:(lG A (.ret c none k .base)).frames=some [env]:=by
  show pushEnvs c.envs A.frames=_
  rw[hfr,hc]
  rfl
 have r1:=(Rel.toW r)
 have r2:Rel (aj F (bG rest)) J dr ⟨o,[(fa,frm)]⟩ [] Z V s:=Rel.consL (a:=rest) (led:=[]) (by rw[List.append_nil];exact r1)
 refine codeAny_mono (hT (aj F (bG rest)) (fun b o q=>.inl (hF b o q)) _ (by lia) (by lia) d3 d4 s r2) fun r' s' x=>?_
 obtain⟨rfl,r3⟩:=x
 have r4:=Rel.unconsL (a:=rest) (led:=[]) (by rw[List.append_nil];exact r1) r3
 obtain⟨sl,r5⟩:=Rel.fromW r4
 exact K s' sl r5
end
theorem rH:∀(ts:List (List Nat)) (vts:List Nat),vts.length=ts.length→fJ ts vts=tvs (ts.zip vts)∧aF (ts.zip vts)=ts
 |[],[],_=>⟨rfl,rfl⟩
 |t::ts,v::vts,h=>by
  obtain⟨h1,h2⟩:=rH ts vts (by simpa using h)
  exact⟨congrArg (Value.str (nm t) v::·) h1,congrArg (t::·) h2⟩
 |[],_::_,h=>by simp at h
 |_::_,[],h=>by simp at h
theorem fK {ws:List (List (List Nat))}(h:ws≠[]):∃t0 tr,∀f,aR ws f=(f++t0)::tr:=by
 cases ws with
 |nil=>exact absurd rfl h
 |cons x r=>exact⟨ao [47] x,r.map (ao [47]),fun f=>rfl⟩
theorem Bf (n k:Nat):(n:Int).fmod (k:Int)=((n%k:Nat):Int):=by
 rw[Int.fmod_eq_emod_of_nonneg _ (Int.natCast_nonneg k)]
 exact(Int.natCast_emod n k).symm
theorem wI (n:Nat):∃mk,gG mk=true∧(seqIndex? ((n%2:Nat):Int) (nm [39,34]).length).bind ((nm [39,34]).cps[·]?)=some mk:=by
 have h:n%2<2:=Nat.mod_lt _ (by decide)
 rcases (show n%2=0∨n%2=1 by lia) with e|e<;>rw[e]
 ·exact⟨39,by decide,rfl⟩
 ·exact⟨34,by decide,rfl⟩
theorem mK (n t:Nat):∃f,IsFront f∧f.length≤3∧aO f≤1∧(∀c∈f,oK c=false∧gG c=false)∧(wH t)[((n%5:Nat):Int).toNat]?=some (.str (nm f) (t+((n%5:Nat):Int).toNat)):=by
 have h:n%5<5:=Nat.mod_lt _ (by decide)
 rcases (show n%5=0∨n%5=1∨n%5=2∨n%5=3∨n%5=4 by lia) with e|e|e|e|e<;>rw[e]
 ·exact⟨[],.no,by decide,by decide +kernel,by decide,rfl⟩
 ·exact⟨[47],.one,by decide,by decide +kernel,by decide,rfl⟩
 ·exact⟨[47,47],.two,by decide,by decide +kernel,by decide,rfl⟩
 ·exact⟨[47,47,47],.three,by decide,by decide +kernel,by decide,rfl⟩
 ·exact⟨[46,46,47],.up,by decide,by decide +kernel,by decide,rfl⟩
end
section
open Builtin Builtin.Str Builtin.Int
structure LineOk (ws:List (List (List Nat)))(f:List Nat)(mk:Nat)(line:List Nat):Prop where
 small:line.length≤20000
 pl:(cU ws f mk).length≤20000
 esc:∀c∈line,c≠92
 escp:∀c∈cU ws f mk,c≠92
 norm:eV line=cU ws f mk
 toks:Toks .sp line (aR ws f) .fin []
 txl:(aR ws f).length≤50000
 due:(∃T,uD ws f=some T∧Toks .sp (cU ws f mk) T .fin []∧T.length≤50000)∨
  (uD ws f=none∧∃ts r x tk q,Toks .sp (cU ws f mk) ts .sp r∧ts.length≤50000∧jk .sp r [] false=some (x,tk,q))
theorem dH {Q:List Nat→Nat→Prop}:∀(ps:List (List Nat×Nat)),(∀dd∈aF ps,∀t,Q dd t)→All2 (fun x dd=>∃t,x=.str (nm dd) t∧Q dd t) (tvs ps) (aF ps)
 |[],_=>.nil
 |p::ps,h=>.cons ⟨p.2,rfl,h p.1 (.head _) p.2⟩ (dH ps fun dd hdd=>h dd (.tail _ hdd))
section
variable {w:World} {J:Array GenState} {dr:Drawn}
theorem N8 {Fn:bw}(hkt:Sub (KF w.params) Fn)(S epS:Nat)(xs:List (Int×Nat))(hS:Fn S (aa epS (dZ xs)))(hxl:xs.length≤1000)(hline:∀(f:List Nat) (mk:Nat),IsFront f→gG mk=true→LineOk (wordsOf (xs.map (·.1))) f mk (f++ao [32] ((aR (wordsOf (xs.map (·.1))) []).map (qu mk))))(hsz0:∀ts∈wordsOf (xs.map (·.1)),cR [47] ts≤60)(hwl:(wordsOf (xs.map (·.1))).length≤15)(Z V:Nat){o:OsState}{A:Around}(hA:A.depth≤310)(hU:A.units≤620)(hh:A.handled=none)(hfr:A.frames=some []){R₀:Result→Shared→Prop}(K:∀s' Z' V',Rel Fn J dr ⟨o,[]⟩ [] Z' V' s'→R₀ (.ok (.ret (.bool true))) s'){s:Shared}(r:Rel Fn J dr ⟨o,[]⟩ [] Z V s):
  codeAny (model aH w) A (.call (.ref 872) ⟨[.ref S],[]⟩) R₀ s:=by
 refine Ua (jc (w:=w) (J:=J) (dr:=dr) (os:=⟨o,[]⟩) hkt S epS xs hS hxl (Z+2) (V+1)) fun W epW was Xw szw tokw w1 w2 w3 w4 hansW=>?_
 refine aK (fP (xs.map (·.1))) fun pc1 pc2 wne=>?_
 have hok:=Bs (xs.map (·.1))
 generalize hws:wordsOf (xs.map (·.1))=ws at *
 refine aL (wI xs.length) fun mk hmq hstr=>?_
 have hm47:mk≠47:=by rintro rfl;exact absurd hmq (by decide)
 refine gB (mK xs.length (tokw+7)) fun f hf hfl hcnt hfree hget=>?_
 have hL:=hline f mk hf hmq
 refine aJ (fK wne) fun t0 tr htx=>?_
 have htl:∀g,(aR ws g).length=tr.length+1:=fun g=>by rw[htx];rfl
 have htr:tr.length+1≤15:=by
  have:(aR ws []).length=ws.length:=by
   cases ws with
   |nil=>exact absurd rfl wne
   |cons x r=>show((r.map _).length+1)=_;rw[List.length_map];rfl
  rw[htl] at this
  lia
 have hlen:∀g:List Nat,g.length≤3→∀t∈aR ws g,t.length≤63:=fun g hg t ht=>by
  cases hws':ws with
  |nil=>exact absurd hws' wne
  |cons x r=>
   rw[hws'] at ht hsz0
   have hx:∀y∈x::r,(ao [47] y).length≤60:=fun y hy=>Nat.le_trans (fj [47] y) (hsz0 y hy)
   rcases List.mem_cons.mp ht with e|e
   ·rw[e,List.length_append]
    have:=hx x (.head _)
    lia
   ·refine aL (List.mem_map.mp e) fun y hy er3=>?_;subst er3
    have:=hx y (.tail _ hy)
    lia
 have hsz:∀ts∈ws,cR [47] ts≤50000:=fun ts hts=>by have:=hsz0 ts hts;lia
 refine mZ (dG (w:=w) (J:=J) (dr:=dr) (os:=⟨o,[]⟩) (Fn:=aj Fn Xw) (hkt.trans (Sub.orL _ _)) W epW was (.inr w3) ws w4 hsz wne (by lia) [] (Nat.zero_le _) (tokw+18) (szw+1) (tokw+19)) fun xa X1 szx tokx x1 x2 ep4 hansX=>?_;obtain⟨p1,x3,x4⟩:=ep4
 have hp1l:p1.length=tr.length+1:=by rw[←cJ,x4,htl]
 have hp1ne:tvs p1≠[]:=by intro e;have:=congrArg List.length e;rw[aG,hp1l] at this;cases this
 have hin3:All2 (fun x dd=>yC x dd∧dd.length≤50000) (tvs p1) (aF p1):=(dD p1).withP fun dd hdd=>by rw[x4] at hdd;have:=hlen [] (Nat.zero_le _) dd hdd;lia
 refine je (mX (w:=w) (J:=J) (dr:=dr) (os:=⟨o,[]⟩) (Fn:=aj (aj (aj Fn Xw) X1) (bG [(Z+1,bU (.str (nm [mk]) (tokw+6)))])) (hkt.trans fun b o q=>.inl (.inl (.inl q))) Z (szx+2) szx (szx+1) xa 0 (Z+1) (tvs p1) (.inl (.inr x3)) (by rw[aG];lia) (tokw+6) mk (.inr (.head _)) hin3 (szx+3) tokx) fun cur3 o3 hc3 ho3 hX3 hall3 hans3=>?_
 rcases hc3 with⟨e,_⟩|⟨_,x3v,rfl⟩
 ·exact absurd e hp1ne
 refine aL (d7 (f:=fun dd=>[mk]++dd++[mk]) hall3) fun p3 hv3 hp3=>?_
 have hp3':aF p3=(aR ws []).map (qu mk):=by rw[hp3,x4];rfl
 have hp3s:cR [32] (aF p3)≤2000:=by
  have h1:=il [32] 65 (aF p3) fun x hx=>by
   rw[hp3'] at hx
   refine aL (List.mem_map.mp hx) fun t ht er5=>?_;subst er5
   have:=hlen [] (Nat.zero_le _) t ht
   unfold qu
   simp only[List.length_append,List.length_cons,List.length_nil]
   lia
  have h2:(aF p3).length*(65+[32].length)≤15*66:=Nat.mul_le_mul_right _ (by rw[hp3',List.length_map,htl];lia)
  lia
 have hJl:(ao [32] (aF p3)).length≤2000:=Nat.le_trans (fj _ _) hp3s
 refine mZ (dG (w:=w) (J:=J) (dr:=dr) (os:=⟨o,[]⟩) (Fn:=aj (aj (aj Fn Xw) X1) o3.X) (hkt.trans fun b o q=>.inl (.inl (.inl q))) W epW was (.inl (.inl (.inr w3))) ws (aM (fun b o q=>.inl (.inl q)) w4) hsz wne (by lia) f (by lia) (tokw+7+((xs.length%5:Nat):Int).toNat) o3.Z (eN f (ao [32] (aF p3)) (jK p3 o3.V)+1)) fun ya X2 szy toky y1 y2 ep6 hansY=>?_;obtain⟨p2,y3,y4⟩:=ep6
 refine sV (iB (w:=w) (J:=J) (dr:=dr) (os:=⟨o,[]⟩) (Fn:=aj (aj (aj (aj Fn Xw) X1) o3.X) X2) (hkt.trans fun b o q=>.inl (.inl (.inl (.inl q)))) W epW was (.inl (.inl (.inl (.inr w3)))) ws (aM (fun b o q=>.inl (.inl (.inl q))) w4) hok f (by lia) (by lia) (tokw+7+((xs.length%5:Nat):Int).toNat) mk hm47 (tokw+6) szy (toky+1)) fun ra pt dv Xp szp tokp q1 q2 q3 hansP=>?_
 rw[←hp3'] at hL
 generalize hfl':f++ao [32] (aF p3)=line at *
 generalize hpl:cU ws f mk=pl at *
 have hant0:aA aH w J dr ⟨o,[]⟩ Fn (bc 0 (z6 S W epW was Xw szw tokw) (Z+2) (V+1) (cB 0 [] S (xs.length:Nat) (fc (xs.length:Nat) 2 ((xs.length%2:Nat):Int) (Aw (nm [39,34]) ((xs.length%2:Nat):Int) mk (cB 0 [] S (xs.length:Nat) (fc (xs.length:Nat) 5 ((xs.length%5:Nat):Int) (aX 4 [(szw,aa 0 (wH (tokw+7)))] szw ((xs.length%5:Nat):Int) (.str (nm f) (tokw+7+((xs.length%5:Nat):Int).toNat)) (bc 0 (rn W [] (tokw+18) xa p1 X1 szx tokx) (szw+1) (tokw+19) (bc 58 (bF (Z+1,bU (.str (nm [mk]) (tokw+6))) (cC 900 (dK (JM w.params) (K6 w.params Z (Z+1) (szx+2)) szx (szx+1)) qm (szx+2) szx xa (szx+1) (tvs p1).length (some x3v) o3)) (szx+3) tokx (dF 16 [(szx+1,aa o3.ep o3.vs)] [32] (szx+1) p3 (dB f (ao [32] (aF p3)) (bc 0 (rn W f (tokw+7+((xs.length%5:Nat):Int).toNat) ya p2 X2 szy toky) o3.Z (eN f (ao [32] (aF p3)) (jK p3 o3.V)+1) (bc 0 (z8 W f (tokw+7+((xs.length%5:Nat):Int).toNat) mk (tokw+6) ra (.str (nm pl) pt) dv Xp szp tokp) szy (toky+1) .nil))))))))))))):=by
  have hn:((dZ xs).length:Int)=(xs.length:Nat):=by rw[rE]
  have hx2:bu aH w J dr ⟨o,[]⟩ (aj Fn Xw) (rn W [] (tokw+18) xa p1 X1 szx tokx) (szw+1) (tokw+19):=⟨hansX.1,fun p hp=>by rw[List.mem_singleton.mp hp];exact x3,hansX.2.2⟩
  have hy2:bu aH w J dr ⟨o,[]⟩ (aj (aj (aj Fn Xw) X1) o3.X) (rn W f (tokw+7+((xs.length%5:Nat):Int).toNat) ya p2 X2 szy toky) o3.Z (eN f (ao [32] (aF p3)) (jK p3 o3.V)+1):=⟨hansY.1,fun p hp=>by rw[List.mem_singleton.mp hp];exact y3,hansY.2.2⟩
  have hi:∀k:Nat,k≤5→(decide (((xs.length%k:Nat):Int) < -(2 ^ 63:Int))||decide (((xs.length%k:Nat):Int)≥2 ^ 63))=false:=fun k hk=>by
   have h1:xs.length%k≤xs.length:=Nat.mod_le _ _
   have e:(2:Int) ^ 63=9223372036854775808:=rfl
   rw[e,decide_eq_false (by lia),decide_eq_false (by lia)]
   rfl
  have h5:xs.length%5<5:=Nat.mod_lt _ (by decide)
  refine dO hansW (gf (ep:=epS) (.inl (.inl hS)) hn (by rw[rE];lia) (dM (by decide) (Bf _ 2) (Mp (hi 2 (by decide)) hstr (gf (ep:=epS) (.inl (.inl hS)) hn (by rw[rE];lia) (dM (by decide) (Bf _ 5) (ie (ep:=0) (.inr (.head _)) (Int.natCast_nonneg _) (by have e:(2:Int) ^ 63=9223372036854775808:=rfl;rw[e];lia) hget (dO hx2 (dO (fU rfl hans3) (lL (ep:=o3.ep) (.inr (by rw[hv3];exact .head _)) (by lia) (jZ (by lia) (dO hy2 (dO hansP trivial))))))))))))
 generalize ((xs.length%2:Nat):Int)=d2 at hant0
 generalize ((xs.length%5:Nat):Int)=d5 at hant0
 generalize ((xs.length:Nat):Int)=nS at hant0
 have hlsm:=hL.small
 have hplsm:=hL.pl
 rw[hpl] at hplsm
 have hp2l:p2.length=tr.length+1:=by rw[←cJ,y4,htl]
 have hp2ne:tvs p2≠[]:=by intro e;have:=congrArg List.length e;rw[aG,hp2l] at this;cases this
 have hp2m:∀dd∈aF p2,dd.length≤63:=fun dd hdd=>hlen f hfl dd (y4▸hdd)
 have hnorm:=hL.norm
 have hescp:=hL.escp
 have hdue:=hL.due
 rw[hpl] at hnorm hescp hdue
 rcases hdue with⟨T,hT1,hT2,hT3⟩|⟨hN,ts,rr,x,tk,q,hT2,hT3,hT4⟩
 ·rw[hT1] at q3
  refine c7 q3 fun da pd er0 hd1 hd2=>?_;subst er0
  obtain⟨R0,hR0,H0,hc0,hk0,hd0,hz0,ht0,hX0⟩:=j7 w.params S epS W epW (tvs p1).length szw tokw xa szx tokx ya szy toky ra szp tokp mk (dZ xs) was Xw X1 X2 Xp nS d2 d5 f pl pt da p1 p2 p3 o3 x3v Z V
  simp only[Prod.mk.injEq] at H0
  refine cg H0 fun b1 b2 b3 b4=>?_
  rw[hfl'] at b2 b3
  generalize (aY f (ao [32] (aF p3)) (tokw+7+d5.toNat) (jT p3 o3.V) (jK p3 o3.V))=lT at b2 b3
  refine wX (F:=Fn) hR0 b1 b4 (fun a o h=>hkt a o h) (fun p hp=>by rw[List.mem_singleton.mp hp];exact hS) hant0 hA hU hh (fun _ q=>nomatch q) (fun s1 r1=>?_) r
  rw[hz0,ht0] at r1
  have r2:=r1.small 3
  rw[b3] at r2
  have r3:=r2.anti (F:=aj Fn (rF R0)) fun b o h=>.inl h
  have hkt1:Sub (KF w.params) (aj Fn (rF R0)):=hkt.trans (Sub.orL _ _)
  have hY:aj Fn (rF R0) ya (aa 0 (tvs p2)):=.inr (by rw[hX0];exact .inl (.inr y3))
  have hD:aj Fn (rF R0) da (aa 0 (tvs pd)):=.inr (by rw[hX0];exact .inr hd1)
  obtain⟨ep1,vts1,sz1,tok1,hv1,hcon1⟩:=cW (w:=w) (J:=J) (dr:=dr) (os:=⟨o,[(Z,d8 (ak R0 0) S W ya f line (tokw+7+d5.toNat) lT (.str (nm pl) pt) (.ref da))]⟩) line (by lia) hL.esc (aR ws f) hL.toks hL.txl (gK w.params Z) (Z,d8 (ak R0 0) S W ya f line (tokw+7+d5.toNat) lT (.str (nm pl) pt) (.ref da)) (.head _) rfl (fun _ e=>nomatch e) (uR (by kernel_rfl) _ _ _) lT (szp+3) (tokp+2)
  obtain⟨e1,e2⟩:=rH (aR ws f) vts1 hv1
  simp only[e1] at hcon1
  rw[hc0,hk0]
  refine tell (F:=aj Fn (rF R0)) hkt1 b2 rfl hcon1 hA hU hh hfr r3 fun s2 sl r4=>?_
  refine je (gM (w:=w) (J:=J) (dr:=dr) (os:=⟨o,[]⟩) hkt1 Z (sz1+2) sz1 (sz1+1) ya 0 (tvs p2) hY (by rw[aG];lia) eV (dH p2 fun dd hdd t Z V=>cG hkt1 dd (by have:=hp2m dd hdd;lia) t Z V) (sz1+3) tok1) fun cur9 o9 hc9 ho9 hX9 hall9 hans9=>?_
  rcases hc9 with⟨e,_⟩|⟨_,x9,rfl⟩
  ·exact absurd e hp2ne
  refine aL (d7 (f:=eV) hall9) fun p9 hv9 hp9=>?_
  refine je (fO (w:=w) (J:=J) (dr:=dr) (os:=⟨o,[]⟩) (Fn:=aj (aj Fn (rF R0)) o9.X) (hkt1.trans (Sub.orL _ _)) Z (o9.Z+2) o9.Z (o9.Z+1) ya 0 (tvs p2) (.inl hY) (by rw[aG];lia) placeOf (dH p2 fun dd hdd t Z V=>eG (hkt1.trans (Sub.orL _ _)) dd (by have:=hp2m dd hdd;lia) t Z V) (o9.Z+3) o9.V) fun cur10 o10 hc10 ho10 hX10 hall10 hans10=>?_
  rcases hc10 with⟨e,_⟩|⟨_,x10,rfl⟩
  ·exact absurd e hp2ne
  refine aL (d7 (f:=placeOf) hall10) fun p10 hv10 hp10=>?_
  have hnp:aF p9=aF p10:=by rw[hp9,hp10];exact List.map_congr_left fun dd _=>tZ dd
  obtain⟨u1,szn,tokn,_,hansN⟩:=cG (w:=w) (J:=J) (dr:=dr) (os:=⟨o,[]⟩) (Fn:=aj (aj (aj Fn (rF R0)) o9.X) o10.X) (hkt1.trans fun b o q=>.inl (.inl q)) line hL.small lT o10.Z o10.V
  rw[hnorm] at hansN
  obtain⟨R1,hR1,H1,hc1,hk1,hd1',hz1,ht1,hX1'⟩:=km w.params S epS W epW (tvs p1).length szw tokw xa szx tokx ya szy toky ra szp tokp mk (dZ xs) was Xw X1 X2 Xp nS d2 d5 f pl pt da p1 p2 p3 o3 x3v (ak R0 0) sl (szp+3+14) ep1 lT (tvs p2).length (tvs p2).length line ((aR ws f).zip vts1) o9 o10 x9 x10 u1 szn tokn sz1 tok1 Z V
  simp only[Prod.mk.injEq] at H1
  refine cg H1 fun g1 g2 g3 g4=>?_
  unfold I7 J3 at hR1
  rw[hR0] at hR1
  refine tG (F:=aj Fn (rF R0)) hR1 rfl g1 g4 hkt1 (fun p hp=>by rw[List.mem_singleton.mp hp];exact hY) ?_ hA hU hh (fun _ q=>nomatch q) (fun s3 r5=>?_) r4
  ·exact uT (ts:=aR ws f) (us:=aR ws f) (fun _=>⟨ep1,_,e2,.inr (.head _)⟩) (fun _=>⟨0,p2,y4,.inl hY⟩) (by rw[jR.mpr rfl];rfl) (dO hans9 (dO hans10 (uT (ts:=aF p9) (us:=aF p9) (fun _=>⟨o9.ep,p9,rfl,.inr (by rw[hv9];exact .head _)⟩) (fun _=>⟨o10.ep,p10,hnp.symm,.inr (by rw[hv10];exact .tail _ (.head _))⟩) (by rw[jR.mpr rfl];rfl) (dO hansN (gm (beq_self_eq_true _) trivial)))))
  rw[hz1,ht1] at r5
  have r6:=r5.small 1
  rw[g3] at r6
  have r7:=r6.anti (F:=aj Fn (rF R0)) fun b o h=>.inl (.inl h)
  rw[hc1,hk1]
  obtain⟨ep2,vts2,sz2,tok2,hv2,hcon2⟩:=cW (w:=w) (J:=J) (dr:=dr) (os:=⟨o,[(Z,{d8 (ak R1 0) S W ya f line (tokw+7+d5.toNat) lT (.str (nm pl) pt) (.ref da) with slots:=sl})]⟩) pl (by lia) hescp T hT2 hT3 (gK w.params Z) (Z,{d8 (ak R1 0) S W ya f line (tokw+7+d5.toNat) lT (.str (nm pl) pt) (.ref da) with slots:=sl}) (.head _) rfl (fun _ e=>nomatch e) (uR (by kernel_rfl) _ _ _) pt szn tokn
  obtain⟨e3,e4⟩:=rH T vts2 hv2
  simp only[e3] at hcon2
  refine tell (F:=aj Fn (rF R0)) (rest:=[]) hkt1 g2 rfl hcon2 hA hU hh hfr r7 fun s4 sl2 r8=>?_
  obtain⟨R2,hR2,H2⟩:=(wK w.params S epS W epW (tvs p1).length szw tokw xa szx tokx ya szy toky ra szp tokp mk (dZ xs) was Xw X1 X2 Xp nS d2 d5 f pl pt da p1 p2 p3 o3 x3v (ak R0 0) sl (szp+3+14) ep1 lT (tvs p2).length (tvs p2).length line ((aR ws f).zip vts1) o9 o10 x9 x10 u1 szn tokn sz1 tok1 (ak R1 0) sl2 sz2 tok2 (szn+14) ep2 0 (T.zip vts2) pd Z V).ex
  unfold Th Om I7 J3 at hR2
  rw[hR0,hR1] at hR2
  exact rO (F:=aj Fn (rF R0)) hR2 rfl H2 hkt1 (fun p hp=>by rw[List.mem_singleton.mp hp];exact hD) (lF (ts:=T) (us:=T) (fun _=>⟨ep2,_,e4,.inr (.head _)⟩) (fun _=>⟨0,pd,hd2,.inl hD⟩) (jR.mpr rfl) trivial) hA hU hh (fun _ q=>nomatch q) (fun s5 r9=>K s5 _ _ (r9.anti fun b o h=>.inl (.inl (.inl h)))) r8
 ·rw[hN] at q3
  obtain⟨ud,rfl⟩:=q3
  obtain⟨R0,hR0,H0,hc0,hk0,hd0,hz0,ht0,hX0⟩:=kJ w.params S epS W epW (tvs p1).length szw tokw xa szx tokx ya szy toky ra szp tokp mk (dZ xs) was Xw X1 X2 Xp nS d2 d5 f pl pt ud p1 p2 p3 o3 x3v Z V
  simp only[Prod.mk.injEq] at H0
  refine cg H0 fun b1 b2 b3 b4=>?_
  rw[hfl'] at b2 b3
  generalize (aY f (ao [32] (aF p3)) (tokw+7+d5.toNat) (jT p3 o3.V) (jK p3 o3.V))=lT at b2 b3
  refine wX (F:=Fn) hR0 b1 b4 (fun a o h=>hkt a o h) (fun p hp=>by rw[List.mem_singleton.mp hp];exact hS) hant0 hA hU hh (fun _ q=>nomatch q) (fun s1 r1=>?_) r
  rw[hz0,ht0] at r1
  have r2:=r1.small 3
  rw[b3] at r2
  have r3:=r2.anti (F:=aj Fn (rF R0)) fun b o h=>.inl h
  have hkt1:Sub (KF w.params) (aj Fn (rF R0)):=hkt.trans (Sub.orL _ _)
  have hY:aj Fn (rF R0) ya (aa 0 (tvs p2)):=.inr (by rw[hX0];exact .inl (.inr y3))
  obtain⟨ep1,vts1,sz1,tok1,hv1,hcon1⟩:=cW (w:=w) (J:=J) (dr:=dr) (os:=⟨o,[(Z,d8 (ak R0 0) S W ya f line (tokw+7+d5.toNat) lT (.str (nm pl) pt) (.str (nm fV) ud))]⟩) line (by lia) hL.esc (aR ws f) hL.toks hL.txl (gK w.params Z) (Z,d8 (ak R0 0) S W ya f line (tokw+7+d5.toNat) lT (.str (nm pl) pt) (.str (nm fV) ud)) (.head _) rfl (fun _ e=>nomatch e) (uR (by kernel_rfl) _ _ _) lT (szp+3) (tokp+2)
  obtain⟨e1,e2⟩:=rH (aR ws f) vts1 hv1
  simp only[e1] at hcon1
  rw[hc0,hk0]
  refine tell (F:=aj Fn (rF R0)) hkt1 b2 rfl hcon1 hA hU hh hfr r3 fun s2 sl r4=>?_
  refine je (gM (w:=w) (J:=J) (dr:=dr) (os:=⟨o,[]⟩) hkt1 Z (sz1+2) sz1 (sz1+1) ya 0 (tvs p2) hY (by rw[aG];lia) eV (dH p2 fun dd hdd t Z V=>cG hkt1 dd (by have:=hp2m dd hdd;lia) t Z V) (sz1+3) tok1) fun cur9 o9 hc9 ho9 hX9 hall9 hans9=>?_
  rcases hc9 with⟨e,_⟩|⟨_,x9,rfl⟩
  ·exact absurd e hp2ne
  refine aL (d7 (f:=eV) hall9) fun p9 hv9 hp9=>?_
  refine je (fO (w:=w) (J:=J) (dr:=dr) (os:=⟨o,[]⟩) (Fn:=aj (aj Fn (rF R0)) o9.X) (hkt1.trans (Sub.orL _ _)) Z (o9.Z+2) o9.Z (o9.Z+1) ya 0 (tvs p2) (.inl hY) (by rw[aG];lia) placeOf (dH p2 fun dd hdd t Z V=>eG (hkt1.trans (Sub.orL _ _)) dd (by have:=hp2m dd hdd;lia) t Z V) (o9.Z+3) o9.V) fun cur10 o10 hc10 ho10 hX10 hall10 hans10=>?_
  rcases hc10 with⟨e,_⟩|⟨_,x10,rfl⟩
  ·exact absurd e hp2ne
  refine aL (d7 (f:=placeOf) hall10) fun p10 hv10 hp10=>?_
  have hnp:aF p9=aF p10:=by rw[hp9,hp10];exact List.map_congr_left fun dd _=>tZ dd
  obtain⟨u1,szn,tokn,_,hansN⟩:=cG (w:=w) (J:=J) (dr:=dr) (os:=⟨o,[]⟩) (Fn:=aj (aj (aj Fn (rF R0)) o9.X) o10.X) (hkt1.trans fun b o q=>.inl (.inl q)) line hL.small lT o10.Z o10.V
  rw[hnorm] at hansN
  obtain⟨R1,hR1,H1,hc1,hk1,hd1',hz1,ht1,hX1'⟩:=kj w.params S epS W epW (tvs p1).length szw tokw xa szx tokx ya szy toky ra szp tokp mk (dZ xs) was Xw X1 X2 Xp nS d2 d5 f pl pt ud p1 p2 p3 o3 x3v (ak R0 0) sl (szp+3+14) ep1 lT (tvs p2).length (tvs p2).length line ((aR ws f).zip vts1) o9 o10 x9 x10 u1 szn tokn sz1 tok1 Z V
  simp only[Prod.mk.injEq] at H1
  refine cg H1 fun g1 g2 g3 g4=>?_
  unfold I2 KQ at hR1
  rw[hR0] at hR1
  refine tG (F:=aj Fn (rF R0)) hR1 rfl g1 g4 hkt1 (fun p hp=>by rw[List.mem_singleton.mp hp];exact hY) ?_ hA hU hh (fun _ q=>nomatch q) (fun s3 r5=>?_) r4
  ·exact uT (ts:=aR ws f) (us:=aR ws f) (fun _=>⟨ep1,_,e2,.inr (.head _)⟩) (fun _=>⟨0,p2,y4,.inl hY⟩) (by rw[jR.mpr rfl];rfl) (dO hans9 (dO hans10 (uT (ts:=aF p9) (us:=aF p9) (fun _=>⟨o9.ep,p9,rfl,.inr (by rw[hv9];exact .head _)⟩) (fun _=>⟨o10.ep,p10,hnp.symm,.inr (by rw[hv10];exact .tail _ (.head _))⟩) (by rw[jR.mpr rfl];rfl) (dO hansN (gm (beq_self_eq_true _) trivial)))))
  rw[hz1,ht1] at r5
  have r6:=r5.small 1
  rw[g3] at r6
  have r7:=r6.anti (F:=aj Fn (rF R0)) fun b o h=>.inl (.inl h)
  rw[hc1,hk1]
  obtain⟨ub,sz2,tok2,hcon2⟩:=qJ (w:=w) (J:=J) (dr:=dr) (os:=⟨o,[(Z,{d8 (ak R1 0) S W ya f line (tokw+7+d5.toNat) lT (.str (nm pl) pt) (.str (nm fV) ud) with slots:=sl})]⟩) pl (by lia) hescp ts rr hT2 hT3 x tk q hT4 (gK w.params Z) (Z,{d8 (ak R1 0) S W ya f line (tokw+7+d5.toNat) lT (.str (nm pl) pt) (.str (nm fV) ud) with slots:=sl}) (.head _) rfl (fun _ e=>nomatch e) (uR (by kernel_rfl) _ _ _) pt szn tokn
  refine tell (F:=aj Fn (rF R0)) (rest:=[]) hkt1 g2 rfl hcon2 hA hU hh hfr r7 fun s4 sl2 r8=>?_
  obtain⟨R2,hR2,H2⟩:=(v9 w.params S epS W epW (tvs p1).length szw tokw xa szx tokx ya szy toky ra szp tokp mk (dZ xs) was Xw X1 X2 Xp nS d2 d5 f pl pt ud p1 p2 p3 o3 x3v (ak R0 0) sl (szp+3+14) ep1 lT (tvs p2).length (tvs p2).length line ((aR ws f).zip vts1) o9 o10 x9 x10 u1 szn tokn sz1 tok1 (ak R1 0) sl2 sz2 tok2 ub Z V).ex
  unfold U6 OJ I2 KQ at hR2
  rw[hR0,hR1] at hR2
  exact rO (F:=aj Fn (rF R0)) hR2 rfl H2 hkt1 (fun p hp=>nomatch hp) (gm (beq_self_eq_true _) trivial) hA hU hh (fun _ q=>nomatch q) (fun s5 r9=>K s5 _ _ (r9.anti fun b o h=>.inl (.inl (.inl h)))) r8
end
end
theorem zQ {α:Type}{kd:α→Nat}:∀l:List α,(gH kd l).2.length≤l.length
 |[]=>Nat.le_refl _
 |a::l=>by
  have ih:=zQ (kd:=kd) l
  show(cF kd a (gH kd l)).2.length≤l.length+1
  unfold cF
  split
  ·exact Nat.le_succ_of_le ih
  ·split
   ·exact Nat.le_succ_of_le ih
   ·split
    ·exact Nat.le_succ_of_le ih
    ·exact Nat.succ_le_succ ih
theorem El {P:List Nat→Prop}{items:List (List (List Nat))}(h:∀x∈items,∀p∈x,P p)(h0:P []):∀(ks:List Nat) (s:List (List (List Nat))×List (List Nat)),(∀x∈s.1,∀p∈x,P p)→(∀p∈s.2,P p)→∀x∈cY items s ks,∀p∈x,P p
 |[],s,h1,h2=>fun x hx=>by
  rcases List.mem_append.mp hx with q|q
  ·exact h1 x q
  ·rw[List.mem_singleton.mp q];exact h2
 |k::ks,s,h1,h2=>by
  rw[lM]
  have hk:∀p∈items.getD k [],P p:=by
   rw[List.getD_eq_getElem?_getD]
   cases hg:items[k]? with
   |none=>exact fun p hp=>nomatch hp
   |some y=>exact h y (List.mem_of_getElem? hg)
  have key:(∀x∈(cu items s k).1,∀p∈x,P p)∧∀p∈(cu items s k).2,P p:=by
   unfold cu
   split
   ·exact⟨h1,h2⟩
   ·rename_i hd r e
    rw[e] at hk
    have h2':∀p∈s.2++[hd],P p:=fun p hp=>by
     rcases List.mem_append.mp hp with q|q
     ·exact h2 p q
     ·rw[List.mem_singleton.mp q];exact hk _ (.head _)
    split
    ·exact⟨h1,h2'⟩
    ·refine⟨fun x hx=>?_,fun p hp=>?_⟩
     ·rcases List.mem_append.mp hx with q|q
      ·rcases List.mem_append.mp q with q|q
       ·exact h1 x q
       ·rw[List.mem_singleton.mp q];exact h2'
      ·refine aL (List.mem_map.mp q) fun p hp er2=>?_;subst er2
       intro p' hp'
       rw[List.mem_singleton.mp hp']
       exact hk _ (.tail _ (List.dropLast_subset r hp))
     ·rw[List.mem_singleton.mp hp]
      cases hl:r.getLast? with
      |none=>exact h0
      |some y=>exact hk _ (.tail _ (List.mem_of_getLast? hl))
  exact El h h0 ks _ key.1 key.2
theorem yW {m:Nat}(hm:m≠47){row:List (List (List Nat))}(h:∀x∈row,∀p∈x,m∉p):∀t∈aR row [],m∉t:=fun t ht=>by
 have key:∀x∈row,m∉ao [47] x:=fun x hx=>pY (by simp;exact hm) x (h x hx)
 cases row with
 |nil=>cases ht
 |cons a r=>
  rcases List.mem_cons.mp ht with e|e
  ·rw[e];exact key a (.head _)
  ·refine aL (List.mem_map.mp e) fun x hx er3=>?_;subst er3
   exact key x (.tail _ hx)
theorem Dp {f:List Nat}(hf:IsFront f):∀c∈pU f,oK c=false∧gG c=false:=by
 cases hf<;>decide
theorem Rd {m:Nat}{items:List (List (List Nat))}(h:∀x∈items,x.length≤31∧∀p∈x,p.length≤3)(k:Nat):(tx m items k).length≤188:=by
 have hg:(items.getD k []).length≤31∧∀p∈items.getD k [],p.length≤3:=by
  rw[List.getD_eq_getElem?_getD]
  cases hx:items[k]? with
  |none=>exact⟨Nat.zero_le _,fun p hp=>nomatch hp⟩
  |some y=>exact h y (List.mem_of_getElem? hx)
 have h1:=fj [m,32,m] (items.getD k [])
 have h2:=il [m,32,m] 3 (items.getD k []) hg.2
 have h3:(items.getD k []).length*(3+[m,32,m].length)≤31*6:=Nat.mul_le_mul_right _ hg.1
 unfold tx
 rw[List.length_append,List.length_append]
 have h4:∀{b:Prop} [Decidable b],(if b then [m] else []:List Nat).length≤1:=fun {b} _=>by split<;>simp
 have h5:=h4 (b:=k=0)
 have h6:=h4 (b:=k+1=items.length)
 lia
theorem plain_len {ws:List (List (List Nat))}(hok:WsOk ws){m:Nat}{f:List Nat}(hf:IsFront f)(hm:m≠47)(hi:H8 m (itemsOf ws))(hcnt:aO f≤1):(cU ws f m).length≤20000:=by
 refine aK (fQ hok) fun q1 q2 q3=>?_
 unfold cU
 have hr:(rootOf f).length≤2:=by cases hf<;>decide
 rw[List.length_append]
 have hd:=zb (itemsOf ws) true
 have hl:(cM (itemsOf ws) true).2.length≤(itemsOf ws).length:=by
  rw[iV]
  refine Nat.le_trans (zQ _) ?_
  rw[List.length_range]
  exact Nat.le_refl _
 generalize hT:((if rootOf f=[] then List.replicate ((cM (itemsOf ws) true).1+aO f) [46,46] else [])++(cM (itemsOf ws) true).2.map fun k=>(eQ ws m).getD k [])=T
 have hTl:T.length≤61:=by
  rw[←hT,List.length_append,List.length_map]
  split
  ·rw[List.length_replicate];lia
  ·show 0+_≤_;lia
 have hTm:∀t∈T,t.length≤188:=fun t ht=>by
  rw[←hT] at ht
  rcases List.mem_append.mp ht with q|q
  ·split at q
   ·rw[(List.mem_replicate.mp q).2];show 2≤188;lia
   ·cases q
  ·refine aL (List.mem_map.mp q) fun k hk er4=>?_;subst er4
   rw[j4 hm q1 hi k (wA (mk:=true) k hk)]
   exact Rd (fun x hx=>⟨(q3 x hx).2.1,fun p hp=>((q3 x hx).2.2 p hp).1⟩) k
 have h1:=fj [47] T
 have h2:=il [47] 188 T hTm
 have h3:T.length*(188+[47].length)≤61*189:=Nat.mul_le_mul_right _ hTl
 lia
theorem Nb (xs:List Int)(f:List Nat)(m:Nat)(hf:IsFront f)(hmq:gG m=true):LineOk (wordsOf xs) f m (f++ao [32] ((aR (wordsOf xs) []).map (qu m))):=by
 refine aK (fP xs) fun pc1 pc2 wne=>?_
 have hok:=Bs xs
 generalize wordsOf xs=ws at *
 have hm:m≠47:=by rintro rfl;exact absurd hmq (by decide)
 have hm6:m≠46:=by rintro rfl;exact absurd hmq (by decide)
 have hm2:m≠32:=by rintro rfl;exact absurd hmq (by decide)
 have hipc:=Kf pc1 wne
 have hi:=GJ hmq hipc
 refine aK (fQ hok) fun q1 q2 q3=>?_
 have hline:f++ao [32] ((aR ws []).map (qu m))=f++([m]++gl m (itemsOf ws)++[m]):=by rw[Dq m wne fun x hx=>(pc1 x hx).1]
 have hfl:f.length≤3:=by cases hf<;>decide
 have hcnt:aO f≤1:=by cases hf<;>decide +kernel
 refine aJ (fK wne) fun t0 tr htx=>?_
 have hwm:∀x∈ws,∀p∈x,m∉p:=fun x hx p hp q=>Bool.noConfusion ((((pc1 x hx).2 p hp).2.2 m q).1.symm.trans hmq)
 have htn:=yW hm hwm
 have hfree:∀c∈f,oK c=false∧gG c=false:=by cases hf<;>decide
 have hgl:(gl m (itemsOf ws)).length≤30*187:=by
  unfold gl
  have h1:=fj [47] ((itemsOf ws).map (ao [m,32,m]))
  have h2:=il [47] 186 ((itemsOf ws).map (ao [m,32,m])) fun t ht=>(O2 hok hm t ht).1
  have h3:((itemsOf ws).map (ao [m,32,m])).length*(186+[47].length)≤30*187:=Nat.mul_le_mul_right _ (by rw[List.length_map];exact q2)
  lia
 have hwl:ws.length≤15:=Nat.le_trans (u6 ws fun x hx=>(pc1 x hx).1) pc2
 have htl:(aR ws f).length≤50000:=by
  have:(aR ws f).length=ws.length:=by
   cases ws with
   |nil=>rfl
   |cons x r=>show((r.map _).length+1)=_;rw[List.length_map];rfl
  lia
 have hline_ok:∀c∈f++ao [32] ((aR ws []).map (qu m)),Kv m c:=fun c hc=>by
  rw[hline] at hc
  rcases List.mem_append.mp hc with q|q
  ·exact Hl hf c q
  ·rcases List.mem_append.mp q with q|q
   ·rcases List.mem_append.mp q with q|q
    ·exact .inl (List.mem_singleton.mp q)
    ·exact Qn hipc c q
   ·exact .inl (List.mem_singleton.mp q)
 have hpl_ok:=HQ hf hm q1 hi hipc
 refine⟨?_,plain_len hok hf hm hi hcnt,fun c hc=>(hline_ok c hc).esc hmq,fun c hc=>(hpl_ok c hc).esc hmq,?_,?_,htl,?_⟩
 ·rw[hline,List.length_append,List.length_append,List.length_append]
  simp only[List.length_cons,List.length_nil]
  lia
 ·rw[hline];exact Hy hf hm hm6 q1 hi
 ·have:=u5 hmq tr t0 f (fun x hx=>htn x (by rw[htx];exact hx)) hfree
  have e:aR ws []=t0::tr:=htx []
  rw[e,htx f]
  exact this
 ·rcases GX (itemsOf ws) q1 with⟨⟨r,hr⟩,hd⟩|⟨h0,hno⟩
  ·left
   have hdue:uD ws f=some (aR (cY (itemsOf ws) ([],[]) (0::r)) (pU f)):=by
    unfold uD
    rw[hr]
    rfl
   refine aJ (fK (ws:=cY (itemsOf ws) ([],[]) (0::r)) (jV _ _ _)) fun u0 ur hux=>?_
   have hrm:∀x∈cY (itemsOf ws) ([],[]) (0::r),∀p∈x,m∉p:=El (fun x hx p hp=>((hi x hx).2 p hp).1) (by simp) (0::r) ([],[]) (fun x hx=>nomatch hx) (fun p hp=>nomatch hp)
   refine⟨_,hdue,?_,?_⟩
   ·rw[Eb hf hm q1 hi r hr hd]
    have:=u5 hmq ur u0 (pU f) (fun x hx=>yW hm hrm x (by rw[hux];exact hx)) (Dp hf)
    have e:aR (cY (itemsOf ws) ([],[]) (0::r)) []=u0::ur:=hux []
    rw[e,hux (pU f)]
    exact this
   ·have h1:=(tK (items:=itemsOf ws) (fun x hx=>⟨(q3 x hx).2.1,fun p hp=>((q3 x hx).2.2 p hp).1⟩) (0::r) ([],[]) 1 (fun x q=>nomatch q) (Nat.zero_le _) (Nat.le_refl _) (fun p q=>nomatch q)).1
    have h2:(0::r).length≤30:=by
     have:=zQ (kd:=yD (itemsOf ws) true) (List.range (itemsOf ws).length)
     rw[←iV,hr,List.length_range] at this
     lia
    have h3:(0::r).length*31≤30*31:=Nat.mul_le_mul_right _ h2
    have h4:(aR (cY (itemsOf ws) ([],[]) (0::r)) (pU f)).length=(cY (itemsOf ws) ([],[]) (0::r)).length:=by
     have:=jV (itemsOf ws) ([],[]) (0::r)
     cases hc:cY (itemsOf ws) ([],[]) (0::r) with
     |nil=>exact absurd hc this
     |cons a b=>show((b.map _).length+1)=_;rw[List.length_map];rfl
    rw[h4]
    have h5:(([],[]):List (List (List Nat))×List (List Nat)).1.length=0:=rfl
    lia
  ·right
   refine⟨?_,?_⟩
   ·unfold uD
    match hc:(cM (itemsOf ws) true).2 with
    |[]=>rfl
    |0::r=>exact absurd hc (hno r)
    |(k+1)::r=>rfl
   ·refine ni (eZ hmq _ (cU ws f m) (Nat.le_refl _) (fun c hc=>(hpl_ok c hc).qt) (iZ hf hm hm6 hm2 q1 hi h0)) fun ts r x tk q g1 g2 g3=>?_
    have:=plain_len hok hf hm hi hcnt
    exact⟨ts,r,x,tk,q,g1,by lia,g3⟩
theorem vC (xs:List Int):(∀ts∈wordsOf xs,cR [47] ts≤60)∧(wordsOf xs).length≤15:=by
 refine aK (fP xs) fun pc1 pc2 wne=>?_
 refine⟨fun ts hts=>?_,Nat.le_trans (u6 _ fun x hx=>(pc1 x hx).1) pc2⟩
 have h1:=il [47] 3 ts fun p hp=>((pc1 ts hts).2 p hp).1
 have h2:=m9 _ ts hts
 have h3:ts.length*(3+[47].length)≤15*4:=Nat.mul_le_mul_right _ (by lia)
 lia
section
open PyProof.Rows
theorem Mf (P:Params):ktop P=KT.of (Kl P):=by kernel_rfl
theorem Ho (P:Params):Jy=(Kl P).map (·.1):=rfl
theorem QS {h:Heap}{K:Frag}{t:KT}{as:List Nat}(e:t=KT.of K)(ea:as=K.map (·.1))(y:as.map h.get?=K.map fun p=>some p.2):KT.Holds h 1 0 t:=by
 subst e ea
 exact holds_of (allIn_of y)
theorem k_in {w:World}{s:Shared}(y:Jx s=J8 w):KT.Holds s.heap 1 0 (ktop w.params):=QS (Mf _) (Ho _) y
theorem Ue (P:Params):(ktop P).get 3=some (k3 P):=by kernel_rfl
noncomputable def Zo:Data→Str→Option Value
 |.dict es _,n=>nsFind es n
 |_,_=>none
theorem Q5 (P:Params):Zo (k3 P).data (nm [108,97,119])=some (.ref 872):=by kernel_rfl
theorem Vt:dL.name=nm [108,97,119]:=by kernel_rfl
theorem Ir:wC.row.toRowW.prog=zE:=by kernel_rfl
theorem um {vs:List Value}{ns:List Int}(h:IntsAre vs ns):∃xs,vs=dZ xs∧ns=xs.map (·.1):=by
 induction h with
 |nil=>exact⟨[],rfl,rfl⟩
 |cons n t _ ih=>
  refine aL ih fun xs e1 e2=>?_
  exact⟨(n,t)::xs,by rw[e1];rfl,by rw[e2];rfl⟩
theorem lst_is (vs:List Value):aa 0 vs={cls:=.type "list",data:=.seq vs.toArray}:=by
 unfold aa qZ
 rw[←SL.e9222952809800978799x4]
theorem Jg {c:ClaimW}(w:World)(cl:Str→Option Addr)(mean:ExcName→Option Value)(args:List WData)(s1:Shared)(hg:s1.gens=#[])(hK:Sub (KF w.params) fun b o=>s1.heap.get? b=some o)(S:Addr)(xs:List (Int×Nat))(hS:s1.heap.get? S=some (aa 0 (dZ xs)))(hl:xs.length≤1000)(hr:∀cls,c.raises args cls=false)(hp:c.post args (.bool true) args=true):
  wpAny (model aH w) callerA (call (.ref 872) [.ref S]) (fun v s'=>GoodWG c cl mean args s1 (.ok (.ret v)) s') (fun e s'=>GoodWG c cl mean args s1 (.error e) s') s1:=by
 refine wpAny_call ?_
 refine N8 (Fn:=fun b o=>s1.heap.get? b=some o) (J:=s1.gens) (dr:=s1.drawn) (o:=s1.os) hK S 0 xs hS hl (fun f mk hf hm=>Nb _ f mk hf hm) (vC _).1 (vC _).2 s1.heap.objs.size s1.toks (by decide) (by decide) rfl rfl (fun s' Z' V' r=>?_) ⟨rfl,fun _ _ h=>h,fun _ h=>(nomatch h),fun _ h=>(nomatch h),.nil,rfl,fun _ h=>(nomatch h)⟩
 have e:=r.rest
 exact⟨.inl ⟨.bool true,.bool true,[],rfl,hr,.bool true,hp,fun _=>⟨.nil,fun _ h=>(nomatch h)⟩⟩,.of_keep r.keep,congrArg (·.os) e,.of_eq ((congrArg (·.gens) e).trans hg)⟩
theorem Rk {w:World}{s0 s1:Shared}{mg mb:Str→Option Value}(G:Ground q0 yc wC.row.toRowW.records (fun _ _=>True) w s0 mg mb s1.heap)(Y:Jx s0=J8 w){a:Addr}(hmg:mg dL.name=some (.ref a))(hg:s1.gens=#[]){args:List WData}{vals:List Value}{as:List Addr}(L:Laid wC.row.toRowW.records w s0 s1 args vals as)(hpre:wC.row.toRowW.claim.pre args=true)(hlay:WData.layableAll args=true)(hrd:ReadsAllW wC.row.toRowW.records (classAt s0.heap) s1.heap vals args as)(hwl:WellAll w.params s1.heap vals args)(hlo:∀a∈as,(a==sysModules)=false):
  wpAny (model wC.row.toRowW.prog w) callerA (call (.ref a) vals) (fun v s'=>GoodWG wC.row.toRowW.claim (classAt s0.heap) (ExcName.means s0.heap) args s1 (.ok (.ret v)) s')
    (fun e s'=>GoodWG wC.row.toRowW.claim (classAt s0.heap) (ExcName.means s0.heap) args s1 (.error e) s') s1:=by
 have hK:Sub (KF w.params) fun b o=>s1.heap.get? b=some o:=fun b o h=>L.keeps b o (kt_at (k_in Y) h)
 have ha:a=872:=by
  refine jd G.T.g fun o es ep h1 h2 _ h4=>?_
  have h3:s1.heap.get? 3=some (k3 w.params):=hK 3 _ (Ue _)
  have h1':s1.heap.get? 3=some o:=h1
  rw[h3] at h1'
  cases h1'
  have h5:=Q5 w.params
  rw[h2] at h5
  have h6:nsFind es (nm [108,97,119])=some (.ref 872):=h5
  rw[h4,←Vt,hmg] at h6
  injection h6 with h7
  injection h7
 subst ha
 wrow_args hpre hlay hrd hwl hlo
 rename_i hn _
 rename IntsAre _ _=>hI
 rename Heap.IsList _ _ _=>hL
 refine aL (um hI) fun xs er5 er6=>?_;subst er5;subst er6
 have hob:=script_obj L hL
 rw[←lst_is] at hob
 have hp:wC.row.toRowW.claim.post [ofPy (PyData.list ((xs.map (·.1)).map PyData.int))] (.bool true) [ofPy (PyData.list ((xs.map (·.1)).map PyData.int))]=true:=by wrow_post
 have hr:∀cls,wC.row.toRowW.claim.raises [ofPy (PyData.list ((xs.map (·.1)).map PyData.int))] cls=false:=raisesW_false (by wrow_none_raised)
 rw[Ir,←Mw]
 refine Jg w _ _ _ _ hg hK _ xs hob ?_ hr hp
 rw[List.length_map] at hn
 lia
theorem mj0282_01:PySem.Challenge.rw_mj0282_01.Holds:=by
 rw[Rq]
 refine holds_law Rc fun said=>?_
 refine holds_openX (r:=wC.row) (q:=q0) (loose:=yc) (Xt:=fun _=>true) (XP:=fun _ _=>True) (Yf:=Jx) (Ya:=J8) (N:=6000) R4 (fun _ _=>trivial) (fun _ _ _ _ _=>trivial) Qv Q9 Ub (fun s _=>QD▸recFacts_of rfl) Yq said XS QJ Qi ?_
 intro w s0 s1 mg mb G Y a o pm cd doc dV kV ha ho hcd hD hmg hg args vals as L hpre hlay hrd hwl hlo
 exact Rk G Y hmg hg L hpre hlay hrd hwl hlo
end
end Mine
theorem PySem.Challenge.cw_mj0282_01_holds : PySem.Challenge.rw_mj0282_01.Holds := by
  exact Mine.mj0282_01
